import JvmDerived
import JvmDerived.Pilot.@@N@@Statement
import JvmDerived.Pilot.@@N@@Code
set_option linter.unusedVariables false
set_option linter.unusedSimpArgs false
namespace Jvm.RoadKit
open Sem ClassFile Op Lib Jvm.Stand Jvm.Free Jvm.LawKit
section New
variable {p : Program} {l : Launch} {e : Env} {R : Room} {s : State} {m : MethodId} {args : Array Value} {below : List Frame} {meth : Method} {c : Code} {T : State} {locs : List Loc} {cells slots : Nat}
theorem retI (X : Stand p l e R s m args below meth c T locs cells slots) (hx : p.tables.exec = Jvm.exec) {pc : Nat} {Ls : Array Slot} {z : Int32} {rest : List Value} (hret : meth.sig.returnType = some .int) (hd : decode c.code pc = .ok (.ireturn, 1)) {fs : List Frame}
    (hl : ∀ (f : JFrame) (acts : List Action), f.method = m → f.locked = none → f.entered = [] → (doReturn e (T.setTop f) acts (some (.int z))).1 = T.setFrames fs) : Steps p.tables e below (T.setTop (mkF m pc Ls (.int z :: rest))) (T.setFrames fs) := by
  have hm' : T.vm.method? m = some meth := X.method'
  have hn : narrow .int (.int z) = .int z := rfl
  show Steps p.tables e below (T.setTop { method := m, pc := pc, locals := Ls, stack := _ :: rest, locked := none }) _
  jvm_step X.here [X.here.top, hx, hd, hm', hret, hn]
  first | (intro acts; rw [hl _ acts rfl rfl rfl]) | rw [hl _ _ rfl rfl rfl]
  exact Steps.refl _
end New
end Jvm.RoadKit
namespace Jvm.Pilot.@@N@@
open Jvm Jvm.ClassFile Sem Op Lib Jvm.Free Jvm.Stand Jvm.LawKit Jvm.RoadKit Bundle Jvm.Pilot.@@N@@.Jvm.D
theorem own_nar {z : Int32} (h : z = 0 ∨ z = 1) : nar .boolean z = z := by rcases h with rfl | rfl <;> rfl
theorem d1_0 : decode prog_48_method_1_code 0 = .ok (.aload_n 0, 1) := by decide +kernel
theorem d1_1 : decode prog_48_method_1_code 1 = .ok (.invokespecial 1, 3) := by decide +kernel
theorem d1_4 : decode prog_48_method_1_code 4 = .ok (.aload_n 0, 1) := by decide +kernel
theorem d1_5 : decode prog_48_method_1_code 5 = .ok (.bipush 16, 2) := by decide +kernel
theorem d1_7 : decode prog_48_method_1_code 7 = .ok (.newarray .long, 2) := by decide +kernel
theorem d1_9 : decode prog_48_method_1_code 9 = .ok (.putfield 9, 3) := by decide +kernel
theorem d1_12 : decode prog_48_method_1_code 12 = .ok (.aload_n 0, 1) := by decide +kernel
theorem d1_13 : decode prog_48_method_1_code 13 = .ok (.bipush 16, 2) := by decide +kernel
theorem d1_15 : decode prog_48_method_1_code 15 = .ok (.invokestatic 13, 3) := by decide +kernel
theorem d1_18 : decode prog_48_method_1_code 18 = .ok (.putfield 19, 3) := by decide +kernel
theorem d1_21 : decode prog_48_method_1_code 21 = .ok (.aload_n 0, 1) := by decide +kernel
theorem d1_22 : decode prog_48_method_1_code 22 = .ok (.new 23, 3) := by decide +kernel
theorem d1_25 : decode prog_48_method_1_code 25 = .ok (.dup, 1) := by decide +kernel
theorem d1_26 : decode prog_48_method_1_code 26 = .ok (.invokespecial 25, 3) := by decide +kernel
theorem d1_29 : decode prog_48_method_1_code 29 = .ok (.putfield 26, 3) := by decide +kernel
theorem d1_32 : decode prog_48_method_1_code 32 = .ok (.return_, 1) := by decide +kernel
theorem d3_0 : decode jdk_33_method_48_code 0 = .ok (.iload_n 0, 1) := by decide +kernel
theorem d3_1 : decode jdk_33_method_48_code 1 = .ok (.iconst (-1), 1) := by decide +kernel
theorem d3_2 : decode jdk_33_method_48_code 2 = .ok (.ixor, 1) := by decide +kernel
theorem d3_3 : decode jdk_33_method_48_code 3 = .ok (.iload_n 0, 1) := by decide +kernel
theorem d3_4 : decode jdk_33_method_48_code 4 = .ok (.iconst 1, 1) := by decide +kernel
theorem d3_5 : decode jdk_33_method_48_code 5 = .ok (.isub, 1) := by decide +kernel
theorem d3_6 : decode jdk_33_method_48_code 6 = .ok (.iand, 1) := by decide +kernel
theorem d3_7 : decode jdk_33_method_48_code 7 = .ok (.istore_n 0, 1) := by decide +kernel
theorem d3_8 : decode jdk_33_method_48_code 8 = .ok (.iload_n 0, 1) := by decide +kernel
theorem d3_9 : decode jdk_33_method_48_code 9 = .ok (.ifCond .gt 8, 3) := by decide +kernel
theorem d3_12 : decode jdk_33_method_48_code 12 = .ok (.iload_n 0, 1) := by decide +kernel
theorem d3_13 : decode jdk_33_method_48_code 13 = .ok (.bipush 32, 2) := by decide +kernel
theorem d3_15 : decode jdk_33_method_48_code 15 = .ok (.iand, 1) := by decide +kernel
theorem d3_16 : decode jdk_33_method_48_code 16 = .ok (.ireturn, 1) := by decide +kernel
theorem d3_17 : decode jdk_33_method_48_code 17 = .ok (.iconst 1, 1) := by decide +kernel
theorem d3_18 : decode jdk_33_method_48_code 18 = .ok (.istore_n 1, 1) := by decide +kernel
theorem d3_19 : decode jdk_33_method_48_code 19 = .ok (.iload_n 0, 1) := by decide +kernel
theorem d3_20 : decode jdk_33_method_48_code 20 = .ok (.ldc_w 264, 3) := by decide +kernel
theorem d3_23 : decode jdk_33_method_48_code 23 = .ok (.if_icmp .le 11, 3) := by decide +kernel
theorem d3_26 : decode jdk_33_method_48_code 26 = .ok (.iinc 1 16, 3) := by decide +kernel
theorem d3_29 : decode jdk_33_method_48_code 29 = .ok (.iload_n 0, 1) := by decide +kernel
theorem d3_30 : decode jdk_33_method_48_code 30 = .ok (.bipush 16, 2) := by decide +kernel
theorem d3_32 : decode jdk_33_method_48_code 32 = .ok (.iushr, 1) := by decide +kernel
theorem d3_33 : decode jdk_33_method_48_code 33 = .ok (.istore_n 0, 1) := by decide +kernel
theorem d3_34 : decode jdk_33_method_48_code 34 = .ok (.iload_n 0, 1) := by decide +kernel
theorem d3_35 : decode jdk_33_method_48_code 35 = .ok (.sipush 256, 3) := by decide +kernel
theorem d3_38 : decode jdk_33_method_48_code 38 = .ok (.if_icmp .le 11, 3) := by decide +kernel
theorem d3_41 : decode jdk_33_method_48_code 41 = .ok (.iinc 1 8, 3) := by decide +kernel
theorem d3_44 : decode jdk_33_method_48_code 44 = .ok (.iload_n 0, 1) := by decide +kernel
theorem d3_45 : decode jdk_33_method_48_code 45 = .ok (.bipush 8, 2) := by decide +kernel
theorem d3_47 : decode jdk_33_method_48_code 47 = .ok (.iushr, 1) := by decide +kernel
theorem d3_48 : decode jdk_33_method_48_code 48 = .ok (.istore_n 0, 1) := by decide +kernel
theorem d3_49 : decode jdk_33_method_48_code 49 = .ok (.iload_n 0, 1) := by decide +kernel
theorem d3_50 : decode jdk_33_method_48_code 50 = .ok (.bipush 16, 2) := by decide +kernel
theorem d3_52 : decode jdk_33_method_48_code 52 = .ok (.if_icmp .le 10, 3) := by decide +kernel
theorem d3_55 : decode jdk_33_method_48_code 55 = .ok (.iinc 1 4, 3) := by decide +kernel
theorem d3_58 : decode jdk_33_method_48_code 58 = .ok (.iload_n 0, 1) := by decide +kernel
theorem d3_59 : decode jdk_33_method_48_code 59 = .ok (.iconst 4, 1) := by decide +kernel
theorem d3_60 : decode jdk_33_method_48_code 60 = .ok (.iushr, 1) := by decide +kernel
theorem d3_61 : decode jdk_33_method_48_code 61 = .ok (.istore_n 0, 1) := by decide +kernel
theorem d3_62 : decode jdk_33_method_48_code 62 = .ok (.iload_n 0, 1) := by decide +kernel
theorem d3_63 : decode jdk_33_method_48_code 63 = .ok (.iconst 4, 1) := by decide +kernel
theorem d3_64 : decode jdk_33_method_48_code 64 = .ok (.if_icmp .le 10, 3) := by decide +kernel
theorem d3_67 : decode jdk_33_method_48_code 67 = .ok (.iinc 1 2, 3) := by decide +kernel
theorem d3_70 : decode jdk_33_method_48_code 70 = .ok (.iload_n 0, 1) := by decide +kernel
theorem d3_71 : decode jdk_33_method_48_code 71 = .ok (.iconst 2, 1) := by decide +kernel
theorem d3_72 : decode jdk_33_method_48_code 72 = .ok (.iushr, 1) := by decide +kernel
theorem d3_73 : decode jdk_33_method_48_code 73 = .ok (.istore_n 0, 1) := by decide +kernel
theorem d3_74 : decode jdk_33_method_48_code 74 = .ok (.iload_n 1, 1) := by decide +kernel
theorem d3_75 : decode jdk_33_method_48_code 75 = .ok (.iload_n 0, 1) := by decide +kernel
theorem d3_76 : decode jdk_33_method_48_code 76 = .ok (.iconst 1, 1) := by decide +kernel
theorem d3_77 : decode jdk_33_method_48_code 77 = .ok (.iushr, 1) := by decide +kernel
theorem d3_78 : decode jdk_33_method_48_code 78 = .ok (.iadd, 1) := by decide +kernel
theorem d3_79 : decode jdk_33_method_48_code 79 = .ok (.ireturn, 1) := by decide +kernel
theorem d4_0 : decode prog_49_method_1_code 0 = .ok (.aload_n 0, 1) := by decide +kernel
theorem d4_1 : decode prog_49_method_1_code 1 = .ok (.invokespecial 7, 3) := by decide +kernel
theorem d4_4 : decode prog_49_method_1_code 4 = .ok (.aload_n 0, 1) := by decide +kernel
theorem d4_5 : decode prog_49_method_1_code 5 = .ok (.iconst 1, 1) := by decide +kernel
theorem d4_6 : decode prog_49_method_1_code 6 = .ok (.anewarray 13, 3) := by decide +kernel
theorem d4_9 : decode prog_49_method_1_code 9 = .ok (.putfield 15, 3) := by decide +kernel
theorem d4_12 : decode prog_49_method_1_code 12 = .ok (.aload_n 0, 1) := by decide +kernel
theorem d4_13 : decode prog_49_method_1_code 13 = .ok (.ldc2_w 19, 3) := by decide +kernel
theorem d4_16 : decode prog_49_method_1_code 16 = .ok (.putfield 21, 3) := by decide +kernel
theorem d4_19 : decode prog_49_method_1_code 19 = .ok (.aload_n 0, 1) := by decide +kernel
theorem d4_20 : decode prog_49_method_1_code 20 = .ok (.bipush 16, 2) := by decide +kernel
theorem d4_22 : decode prog_49_method_1_code 22 = .ok (.newarray .long, 2) := by decide +kernel
theorem d4_24 : decode prog_49_method_1_code 24 = .ok (.putfield 25, 3) := by decide +kernel
theorem d4_27 : decode prog_49_method_1_code 27 = .ok (.aload_n 0, 1) := by decide +kernel
theorem d4_28 : decode prog_49_method_1_code 28 = .ok (.bipush 16, 2) := by decide +kernel
theorem d4_30 : decode prog_49_method_1_code 30 = .ok (.invokestatic 29, 3) := by decide +kernel
theorem d4_33 : decode prog_49_method_1_code 33 = .ok (.putfield 33, 3) := by decide +kernel
theorem d4_36 : decode prog_49_method_1_code 36 = .ok (.return_, 1) := by decide +kernel
theorem d5_0 : decode prog_48_method_8_code 0 = .ok (.aload_n 0, 1) := by decide +kernel
theorem d5_1 : decode prog_48_method_8_code 1 = .ok (.getfield 77, 3) := by decide +kernel
theorem d5_4 : decode prog_48_method_8_code 4 = .ok (.aload_n 0, 1) := by decide +kernel
theorem d5_5 : decode prog_48_method_8_code 5 = .ok (.getfield 48, 3) := by decide +kernel
theorem d5_8 : decode prog_48_method_8_code 8 = .ok (.ifCond .eq 7, 3) := by decide +kernel
theorem d5_11 : decode prog_48_method_8_code 11 = .ok (.iconst 1, 1) := by decide +kernel
theorem d5_12 : decode prog_48_method_8_code 12 = .ok (.goto 4, 3) := by decide +kernel
theorem d5_15 : decode prog_48_method_8_code 15 = .ok (.iconst 0, 1) := by decide +kernel
theorem d5_16 : decode prog_48_method_8_code 16 = .ok (.iadd, 1) := by decide +kernel
theorem d5_17 : decode prog_48_method_8_code 17 = .ok (.newarray .long, 2) := by decide +kernel
theorem d5_19 : decode prog_48_method_8_code 19 = .ok (.astore_n 1, 1) := by decide +kernel
theorem d5_20 : decode prog_48_method_8_code 20 = .ok (.iconst 0, 1) := by decide +kernel
theorem d5_21 : decode prog_48_method_8_code 21 = .ok (.istore_n 2, 1) := by decide +kernel
theorem d5_22 : decode prog_48_method_8_code 22 = .ok (.aload_n 0, 1) := by decide +kernel
theorem d5_23 : decode prog_48_method_8_code 23 = .ok (.getfield 9, 3) := by decide +kernel
theorem d5_26 : decode prog_48_method_8_code 26 = .ok (.astore_n 3, 1) := by decide +kernel
theorem d5_27 : decode prog_48_method_8_code 27 = .ok (.aload_n 3, 1) := by decide +kernel
theorem d5_28 : decode prog_48_method_8_code 28 = .ok (.arraylength, 1) := by decide +kernel
theorem d5_29 : decode prog_48_method_8_code 29 = .ok (.istore 4, 2) := by decide +kernel
theorem d5_31 : decode prog_48_method_8_code 31 = .ok (.iconst 0, 1) := by decide +kernel
theorem d5_32 : decode prog_48_method_8_code 32 = .ok (.istore 5, 2) := by decide +kernel
theorem d5_34 : decode prog_48_method_8_code 34 = .ok (.iload 5, 2) := by decide +kernel
theorem d5_36 : decode prog_48_method_8_code 36 = .ok (.iload 4, 2) := by decide +kernel
theorem d5_38 : decode prog_48_method_8_code 38 = .ok (.if_icmp .ge 30, 3) := by decide +kernel
theorem d5_41 : decode prog_48_method_8_code 41 = .ok (.aload_n 3, 1) := by decide +kernel
theorem d5_42 : decode prog_48_method_8_code 42 = .ok (.iload 5, 2) := by decide +kernel
theorem d5_44 : decode prog_48_method_8_code 44 = .ok (.laload, 1) := by decide +kernel
theorem d5_45 : decode prog_48_method_8_code 45 = .ok (.lstore 6, 2) := by decide +kernel
theorem d5_47 : decode prog_48_method_8_code 47 = .ok (.lload 6, 2) := by decide +kernel
theorem d5_49 : decode prog_48_method_8_code 49 = .ok (.lconst 0, 1) := by decide +kernel
theorem d5_50 : decode prog_48_method_8_code 50 = .ok (.lcmp, 1) := by decide +kernel
theorem d5_51 : decode prog_48_method_8_code 51 = .ok (.ifCond .eq 11, 3) := by decide +kernel
theorem d5_54 : decode prog_48_method_8_code 54 = .ok (.aload_n 1, 1) := by decide +kernel
theorem d5_55 : decode prog_48_method_8_code 55 = .ok (.iload_n 2, 1) := by decide +kernel
theorem d5_56 : decode prog_48_method_8_code 56 = .ok (.lload 6, 2) := by decide +kernel
theorem d5_58 : decode prog_48_method_8_code 58 = .ok (.lastore, 1) := by decide +kernel
theorem d5_59 : decode prog_48_method_8_code 59 = .ok (.iinc 2 1, 3) := by decide +kernel
theorem d5_62 : decode prog_48_method_8_code 62 = .ok (.iinc 5 1, 3) := by decide +kernel
theorem d5_65 : decode prog_48_method_8_code 65 = .ok (.goto (-31), 3) := by decide +kernel
theorem d5_68 : decode prog_48_method_8_code 68 = .ok (.aload_n 0, 1) := by decide +kernel
theorem d5_69 : decode prog_48_method_8_code 69 = .ok (.getfield 48, 3) := by decide +kernel
theorem d5_72 : decode prog_48_method_8_code 72 = .ok (.ifCond .eq 7, 3) := by decide +kernel
theorem d5_75 : decode prog_48_method_8_code 75 = .ok (.aload_n 1, 1) := by decide +kernel
theorem d5_76 : decode prog_48_method_8_code 76 = .ok (.iload_n 2, 1) := by decide +kernel
theorem d5_77 : decode prog_48_method_8_code 77 = .ok (.lconst 0, 1) := by decide +kernel
theorem d5_78 : decode prog_48_method_8_code 78 = .ok (.lastore, 1) := by decide +kernel
theorem d5_79 : decode prog_48_method_8_code 79 = .ok (.aload_n 1, 1) := by decide +kernel
theorem d5_80 : decode prog_48_method_8_code 80 = .ok (.areturn, 1) := by decide +kernel
theorem d6_0 : decode prog_48_method_3_code 0 = .ok (.lload_n 1, 1) := by decide +kernel
theorem d6_1 : decode prog_48_method_3_code 1 = .ok (.lconst 0, 1) := by decide +kernel
theorem d6_2 : decode prog_48_method_3_code 2 = .ok (.lcmp, 1) := by decide +kernel
theorem d6_3 : decode prog_48_method_3_code 3 = .ok (.ifCond .ne 24, 3) := by decide +kernel
theorem d6_6 : decode prog_48_method_3_code 6 = .ok (.aload_n 0, 1) := by decide +kernel
theorem d6_7 : decode prog_48_method_3_code 7 = .ok (.getfield 48, 3) := by decide +kernel
theorem d6_10 : decode prog_48_method_3_code 10 = .ok (.ifCond .ne 7, 3) := by decide +kernel
theorem d6_13 : decode prog_48_method_3_code 13 = .ok (.iconst 1, 1) := by decide +kernel
theorem d6_14 : decode prog_48_method_3_code 14 = .ok (.goto 4, 3) := by decide +kernel
theorem d6_17 : decode prog_48_method_3_code 17 = .ok (.iconst 0, 1) := by decide +kernel
theorem d6_18 : decode prog_48_method_3_code 18 = .ok (.istore_n 3, 1) := by decide +kernel
theorem d6_19 : decode prog_48_method_3_code 19 = .ok (.aload_n 0, 1) := by decide +kernel
theorem d6_20 : decode prog_48_method_3_code 20 = .ok (.iconst 1, 1) := by decide +kernel
theorem d6_21 : decode prog_48_method_3_code 21 = .ok (.putfield 48, 3) := by decide +kernel
theorem d6_24 : decode prog_48_method_3_code 24 = .ok (.goto 9, 3) := by decide +kernel
theorem d6_27 : decode prog_48_method_3_code 27 = .ok (.aload_n 0, 1) := by decide +kernel
theorem d6_28 : decode prog_48_method_3_code 28 = .ok (.lload_n 1, 1) := by decide +kernel
theorem d6_29 : decode prog_48_method_3_code 29 = .ok (.invokevirtual 52, 3) := by decide +kernel
theorem d6_32 : decode prog_48_method_3_code 32 = .ok (.istore_n 3, 1) := by decide +kernel
theorem d6_33 : decode prog_48_method_3_code 33 = .ok (.iload_n 3, 1) := by decide +kernel
theorem d6_34 : decode prog_48_method_3_code 34 = .ok (.ireturn, 1) := by decide +kernel
theorem d7_0 : decode prog_48_method_13_code 0 = .ok (.aload_n 0, 1) := by decide +kernel
theorem d7_1 : decode prog_48_method_13_code 1 = .ok (.lload_n 1, 1) := by decide +kernel
theorem d7_2 : decode prog_48_method_13_code 2 = .ok (.invokevirtual 61, 3) := by decide +kernel
theorem d7_5 : decode prog_48_method_13_code 5 = .ok (.istore_n 3, 1) := by decide +kernel
theorem d7_6 : decode prog_48_method_13_code 6 = .ok (.aload_n 0, 1) := by decide +kernel
theorem d7_7 : decode prog_48_method_13_code 7 = .ok (.getfield 9, 3) := by decide +kernel
theorem d7_10 : decode prog_48_method_13_code 10 = .ok (.iload_n 3, 1) := by decide +kernel
theorem d7_11 : decode prog_48_method_13_code 11 = .ok (.laload, 1) := by decide +kernel
theorem d7_12 : decode prog_48_method_13_code 12 = .ok (.lload_n 1, 1) := by decide +kernel
theorem d7_13 : decode prog_48_method_13_code 13 = .ok (.lcmp, 1) := by decide +kernel
theorem d7_14 : decode prog_48_method_13_code 14 = .ok (.ifCond .ne 5, 3) := by decide +kernel
theorem d7_17 : decode prog_48_method_13_code 17 = .ok (.iconst 0, 1) := by decide +kernel
theorem d7_18 : decode prog_48_method_13_code 18 = .ok (.ireturn, 1) := by decide +kernel
theorem d7_19 : decode prog_48_method_13_code 19 = .ok (.aload_n 0, 1) := by decide +kernel
theorem d7_20 : decode prog_48_method_13_code 20 = .ok (.getfield 9, 3) := by decide +kernel
theorem d7_23 : decode prog_48_method_13_code 23 = .ok (.iload_n 3, 1) := by decide +kernel
theorem d7_24 : decode prog_48_method_13_code 24 = .ok (.lload_n 1, 1) := by decide +kernel
theorem d7_25 : decode prog_48_method_13_code 25 = .ok (.lastore, 1) := by decide +kernel
theorem d7_26 : decode prog_48_method_13_code 26 = .ok (.aload_n 0, 1) := by decide +kernel
theorem d7_27 : decode prog_48_method_13_code 27 = .ok (.dup, 1) := by decide +kernel
theorem d7_28 : decode prog_48_method_13_code 28 = .ok (.getfield 77, 3) := by decide +kernel
theorem d7_31 : decode prog_48_method_13_code 31 = .ok (.iconst 1, 1) := by decide +kernel
theorem d7_32 : decode prog_48_method_13_code 32 = .ok (.iadd, 1) := by decide +kernel
theorem d7_33 : decode prog_48_method_13_code 33 = .ok (.putfield 77, 3) := by decide +kernel
theorem d7_36 : decode prog_48_method_13_code 36 = .ok (.aload_n 0, 1) := by decide +kernel
theorem d7_37 : decode prog_48_method_13_code 37 = .ok (.getfield 77, 3) := by decide +kernel
theorem d7_40 : decode prog_48_method_13_code 40 = .ok (.aload_n 0, 1) := by decide +kernel
theorem d7_41 : decode prog_48_method_13_code 41 = .ok (.getfield 9, 3) := by decide +kernel
theorem d7_44 : decode prog_48_method_13_code 44 = .ok (.invokestatic 91, 3) := by decide +kernel
theorem d7_47 : decode prog_48_method_13_code 47 = .ok (.ifCond .eq 7, 3) := by decide +kernel
theorem d7_50 : decode prog_48_method_13_code 50 = .ok (.aload_n 0, 1) := by decide +kernel
theorem d7_51 : decode prog_48_method_13_code 51 = .ok (.invokevirtual 95, 3) := by decide +kernel
theorem d7_54 : decode prog_48_method_13_code 54 = .ok (.iconst 1, 1) := by decide +kernel
theorem d7_55 : decode prog_48_method_13_code 55 = .ok (.ireturn, 1) := by decide +kernel
theorem d8_0 : decode prog_48_method_14_code 0 = .ok (.aload_n 0, 1) := by decide +kernel
theorem d8_1 : decode prog_48_method_14_code 1 = .ok (.getfield 9, 3) := by decide +kernel
theorem d8_4 : decode prog_48_method_14_code 4 = .ok (.arraylength, 1) := by decide +kernel
theorem d8_5 : decode prog_48_method_14_code 5 = .ok (.iconst 1, 1) := by decide +kernel
theorem d8_6 : decode prog_48_method_14_code 6 = .ok (.isub, 1) := by decide +kernel
theorem d8_7 : decode prog_48_method_14_code 7 = .ok (.istore_n 3, 1) := by decide +kernel
theorem d8_8 : decode prog_48_method_14_code 8 = .ok (.lload_n 1, 1) := by decide +kernel
theorem d8_9 : decode prog_48_method_14_code 9 = .ok (.ldc2_w 106, 3) := by decide +kernel
theorem d8_12 : decode prog_48_method_14_code 12 = .ok (.lmul, 1) := by decide +kernel
theorem d8_13 : decode prog_48_method_14_code 13 = .ok (.bipush 64, 2) := by decide +kernel
theorem d8_15 : decode prog_48_method_14_code 15 = .ok (.aload_n 0, 1) := by decide +kernel
theorem d8_16 : decode prog_48_method_14_code 16 = .ok (.getfield 19, 3) := by decide +kernel
theorem d8_19 : decode prog_48_method_14_code 19 = .ok (.isub, 1) := by decide +kernel
theorem d8_20 : decode prog_48_method_14_code 20 = .ok (.lushr, 1) := by decide +kernel
theorem d8_21 : decode prog_48_method_14_code 21 = .ok (.l2i, 1) := by decide +kernel
theorem d8_22 : decode prog_48_method_14_code 22 = .ok (.istore 4, 2) := by decide +kernel
theorem d8_24 : decode prog_48_method_14_code 24 = .ok (.aload_n 0, 1) := by decide +kernel
theorem d8_25 : decode prog_48_method_14_code 25 = .ok (.getfield 9, 3) := by decide +kernel
theorem d8_28 : decode prog_48_method_14_code 28 = .ok (.iload 4, 2) := by decide +kernel
theorem d8_30 : decode prog_48_method_14_code 30 = .ok (.laload, 1) := by decide +kernel
theorem d8_31 : decode prog_48_method_14_code 31 = .ok (.lconst 0, 1) := by decide +kernel
theorem d8_32 : decode prog_48_method_14_code 32 = .ok (.lcmp, 1) := by decide +kernel
theorem d8_33 : decode prog_48_method_14_code 33 = .ok (.ifCond .eq 26, 3) := by decide +kernel
theorem d8_36 : decode prog_48_method_14_code 36 = .ok (.aload_n 0, 1) := by decide +kernel
theorem d8_37 : decode prog_48_method_14_code 37 = .ok (.getfield 9, 3) := by decide +kernel
theorem d8_40 : decode prog_48_method_14_code 40 = .ok (.iload 4, 2) := by decide +kernel
theorem d8_42 : decode prog_48_method_14_code 42 = .ok (.laload, 1) := by decide +kernel
theorem d8_43 : decode prog_48_method_14_code 43 = .ok (.lload_n 1, 1) := by decide +kernel
theorem d8_44 : decode prog_48_method_14_code 44 = .ok (.lcmp, 1) := by decide +kernel
theorem d8_45 : decode prog_48_method_14_code 45 = .ok (.ifCond .eq 14, 3) := by decide +kernel
theorem d8_48 : decode prog_48_method_14_code 48 = .ok (.iload 4, 2) := by decide +kernel
theorem d8_50 : decode prog_48_method_14_code 50 = .ok (.iconst 1, 1) := by decide +kernel
theorem d8_51 : decode prog_48_method_14_code 51 = .ok (.iadd, 1) := by decide +kernel
theorem d8_52 : decode prog_48_method_14_code 52 = .ok (.iload_n 3, 1) := by decide +kernel
theorem d8_53 : decode prog_48_method_14_code 53 = .ok (.iand, 1) := by decide +kernel
theorem d8_54 : decode prog_48_method_14_code 54 = .ok (.istore 4, 2) := by decide +kernel
theorem d8_56 : decode prog_48_method_14_code 56 = .ok (.goto (-32), 3) := by decide +kernel
theorem d8_59 : decode prog_48_method_14_code 59 = .ok (.iload 4, 2) := by decide +kernel
theorem d8_61 : decode prog_48_method_14_code 61 = .ok (.ireturn, 1) := by decide +kernel
theorem d9_0 : decode prog_48_method_16_code 0 = .ok (.iload_n 0, 1) := by decide +kernel
theorem d9_1 : decode prog_48_method_16_code 1 = .ok (.aload_n 1, 1) := by decide +kernel
theorem d9_2 : decode prog_48_method_16_code 2 = .ok (.arraylength, 1) := by decide +kernel
theorem d9_3 : decode prog_48_method_16_code 3 = .ok (.iconst 4, 1) := by decide +kernel
theorem d9_4 : decode prog_48_method_16_code 4 = .ok (.idiv, 1) := by decide +kernel
theorem d9_5 : decode prog_48_method_16_code 5 = .ok (.iconst 3, 1) := by decide +kernel
theorem d9_6 : decode prog_48_method_16_code 6 = .ok (.imul, 1) := by decide +kernel
theorem d9_7 : decode prog_48_method_16_code 7 = .ok (.if_icmp .le 7, 3) := by decide +kernel
theorem d9_10 : decode prog_48_method_16_code 10 = .ok (.iconst 1, 1) := by decide +kernel
theorem d9_11 : decode prog_48_method_16_code 11 = .ok (.goto 4, 3) := by decide +kernel
theorem d9_14 : decode prog_48_method_16_code 14 = .ok (.iconst 0, 1) := by decide +kernel
theorem d9_15 : decode prog_48_method_16_code 15 = .ok (.ireturn, 1) := by decide +kernel
theorem d10_0 : decode method_2_code 0 = .ok (.iconst 0, 1) := by decide +kernel
theorem d10_1 : decode method_2_code 1 = .ok (.istore_n 3, 1) := by decide +kernel
theorem d10_2 : decode method_2_code 2 = .ok (.aload_n 0, 1) := by decide +kernel
theorem d10_3 : decode method_2_code 3 = .ok (.arraylength, 1) := by decide +kernel
theorem d10_4 : decode method_2_code 4 = .ok (.ifCond .le 14, 3) := by decide +kernel
theorem d10_7 : decode method_2_code 7 = .ok (.aload_n 0, 1) := by decide +kernel
theorem d10_8 : decode method_2_code 8 = .ok (.iconst 0, 1) := by decide +kernel
theorem d10_9 : decode method_2_code 9 = .ok (.laload, 1) := by decide +kernel
theorem d10_10 : decode method_2_code 10 = .ok (.lload_n 1, 1) := by decide +kernel
theorem d10_11 : decode method_2_code 11 = .ok (.lcmp, 1) := by decide +kernel
theorem d10_12 : decode method_2_code 12 = .ok (.ifCond .ne 6, 3) := by decide +kernel
theorem d10_15 : decode method_2_code 15 = .ok (.iinc 3 1, 3) := by decide +kernel
theorem d10_18 : decode method_2_code 18 = .ok (.aload_n 0, 1) := by decide +kernel
theorem d10_19 : decode method_2_code 19 = .ok (.arraylength, 1) := by decide +kernel
theorem d10_20 : decode method_2_code 20 = .ok (.iconst 1, 1) := by decide +kernel
theorem d10_21 : decode method_2_code 21 = .ok (.if_icmp .le 14, 3) := by decide +kernel
theorem d10_24 : decode method_2_code 24 = .ok (.aload_n 0, 1) := by decide +kernel
theorem d10_25 : decode method_2_code 25 = .ok (.iconst 1, 1) := by decide +kernel
theorem d10_26 : decode method_2_code 26 = .ok (.laload, 1) := by decide +kernel
theorem d10_27 : decode method_2_code 27 = .ok (.lload_n 1, 1) := by decide +kernel
theorem d10_28 : decode method_2_code 28 = .ok (.lcmp, 1) := by decide +kernel
theorem d10_29 : decode method_2_code 29 = .ok (.ifCond .ne 6, 3) := by decide +kernel
theorem d10_32 : decode method_2_code 32 = .ok (.iinc 3 1, 3) := by decide +kernel
theorem d10_35 : decode method_2_code 35 = .ok (.aload_n 0, 1) := by decide +kernel
theorem d10_36 : decode method_2_code 36 = .ok (.arraylength, 1) := by decide +kernel
theorem d10_37 : decode method_2_code 37 = .ok (.iconst 2, 1) := by decide +kernel
theorem d10_38 : decode method_2_code 38 = .ok (.if_icmp .le 14, 3) := by decide +kernel
theorem d10_41 : decode method_2_code 41 = .ok (.aload_n 0, 1) := by decide +kernel
theorem d10_42 : decode method_2_code 42 = .ok (.iconst 2, 1) := by decide +kernel
theorem d10_43 : decode method_2_code 43 = .ok (.laload, 1) := by decide +kernel
theorem d10_44 : decode method_2_code 44 = .ok (.lload_n 1, 1) := by decide +kernel
theorem d10_45 : decode method_2_code 45 = .ok (.lcmp, 1) := by decide +kernel
theorem d10_46 : decode method_2_code 46 = .ok (.ifCond .ne 6, 3) := by decide +kernel
theorem d10_49 : decode method_2_code 49 = .ok (.iinc 3 1, 3) := by decide +kernel
theorem d10_52 : decode method_2_code 52 = .ok (.aload_n 0, 1) := by decide +kernel
theorem d10_53 : decode method_2_code 53 = .ok (.arraylength, 1) := by decide +kernel
theorem d10_54 : decode method_2_code 54 = .ok (.iconst 3, 1) := by decide +kernel
theorem d10_55 : decode method_2_code 55 = .ok (.if_icmp .le 14, 3) := by decide +kernel
theorem d10_58 : decode method_2_code 58 = .ok (.aload_n 0, 1) := by decide +kernel
theorem d10_59 : decode method_2_code 59 = .ok (.iconst 3, 1) := by decide +kernel
theorem d10_60 : decode method_2_code 60 = .ok (.laload, 1) := by decide +kernel
theorem d10_61 : decode method_2_code 61 = .ok (.lload_n 1, 1) := by decide +kernel
theorem d10_62 : decode method_2_code 62 = .ok (.lcmp, 1) := by decide +kernel
theorem d10_63 : decode method_2_code 63 = .ok (.ifCond .ne 6, 3) := by decide +kernel
theorem d10_66 : decode method_2_code 66 = .ok (.iinc 3 1, 3) := by decide +kernel
theorem d10_69 : decode method_2_code 69 = .ok (.iload_n 3, 1) := by decide +kernel
theorem d10_70 : decode method_2_code 70 = .ok (.ireturn, 1) := by decide +kernel
section
variable (hs : Int64 → Nat)
def own_hit (vs : List Int64) (x : Int64) (d : Nat) : Prop := vs.getD ((hs x + d) % 16) 0 = 0 ∨ vs.getD ((hs x + d) % 16) 0 = x
def own_first (vs : List Int64) (x : Int64) (d : Nat) : Prop := own_hit hs vs x d ∧ ∀ e, e < d → ¬ own_hit hs vs x e
def own_ok (vs : List Int64) : Prop := vs.length = 16 ∧ ∀ i, i < 16 → vs.getD i 0 ≠ 0 → ∃ d, d < 16 ∧ (hs (vs.getD i 0) + d) % 16 = i ∧ ∀ e, e < d → ¬ own_hit hs vs (vs.getD i 0) e
theorem own_least (P : Nat → Prop) : ∀ n, P n → ∃ m, m ≤ n ∧ P m ∧ ∀ e, e < m → ¬ P e := by
  intro n
  induction n using Nat.strongRecOn with
  | _ n ih =>
    intro h
    by_cases q : ∃ e, e < n ∧ P e
    · obtain ⟨e, he, pe⟩ := q
      obtain ⟨m, h1, h2, h3⟩ := ih e he pe
      exact ⟨m, by omega, h2, h3⟩
    · exact ⟨n, Nat.le_refl _, h, fun e he pe => q ⟨e, he, pe⟩⟩
theorem own_find {vs : List Int64} {z : Nat} (hz : z < 16) (h0 : vs.getD z 0 = 0) (x : Int64) : ∃ d, d < 16 ∧ own_first hs vs x d := by
  have e : (hs x + (z + 16 - hs x % 16) % 16) % 16 = z := by omega
  obtain ⟨m, h1, h2, h3⟩ := own_least (own_hit hs vs x) ((z + 16 - hs x % 16) % 16) (Or.inl (by rw [e]; exact h0))
  exact ⟨m, by omega, h2, h3⟩
theorem own_getset {vs : List Int64} {r i : Nat} {x : Int64} (hr : r < vs.length) : (vs.set r x).getD i 0 = if i = r then x else vs.getD i 0 := by
  by_cases q : i = r
  · subst q; simp [List.getD, hr]
  · rw [if_neg q]; simp [List.getD, List.getElem?_set_ne (Ne.symm q)]
theorem own_hit_set {vs : List Int64} {r : Nat} {x y : Int64} {e : Nat} (hr : r < vs.length) (h0 : vs.getD r 0 = 0) (h : ¬ own_hit hs vs y e) : ¬ own_hit hs (vs.set r x) y e := by
  have ne : (hs y + e) % 16 ≠ r := fun q => h (Or.inl (by rw [q]; exact h0))
  unfold own_hit at h ⊢
  rw [own_getset hr, if_neg ne]; exact h
theorem own_ok_set {vs : List Int64} (ok : own_ok hs vs) {x : Int64} {d : Nat} (hd : d < 16) (f : own_first hs vs x d) (h0 : vs.getD ((hs x + d) % 16) 0 = 0) : own_ok hs (vs.set ((hs x + d) % 16) x) := by
  obtain ⟨hl, inv⟩ := ok
  have hr : (hs x + d) % 16 < vs.length := by rw [hl]; omega
  refine ⟨by rw [List.length_set]; exact hl, fun i hi hne => ?_⟩
  rw [own_getset hr] at hne ⊢
  by_cases q : i = (hs x + d) % 16
  · rw [if_pos q]
    exact ⟨d, hd, q.symm, fun e he => own_hit_set hs hr h0 (f.2 e he)⟩
  · rw [if_neg q] at hne ⊢
    obtain ⟨d', h1, h2, h3⟩ := inv i hi hne
    exact ⟨d', h1, h2, fun e he => own_hit_set hs hr h0 (h3 e he)⟩
theorem own_mem {x : Int64} {ws : List Int64} : x ∈ ws ↔ ∃ i, i < ws.length ∧ ws.getD i 0 = x := by
  rw [List.mem_iff_getElem]
  constructor
  · rintro ⟨i, h, e⟩; exact ⟨i, h, by simpa [List.getD, h] using e⟩
  · rintro ⟨i, h, e⟩; exact ⟨i, h, by simpa [List.getD, h] using e⟩
theorem own_found {vs : List Int64} (ok : own_ok hs vs) {x : Int64} (hx : x ≠ 0) {d : Nat} (f : own_first hs vs x d) : vs.getD ((hs x + d) % 16) 0 = x ↔ x ∈ vs := by
  obtain ⟨hl, inv⟩ := ok
  constructor
  · intro h; exact own_mem.mpr ⟨_, by rw [hl]; omega, h⟩
  · intro h
    obtain ⟨i, h1, h2⟩ := own_mem.mp h
    rw [hl] at h1
    obtain ⟨d', q1, q2, q3⟩ := inv i h1 (by rw [h2]; exact hx)
    rw [h2] at q2 q3
    have hit : own_hit hs vs x d' := Or.inr (by rw [q2]; exact h2)
    have a : ¬ d < d' := fun q => q3 d q f.1
    have b : ¬ d' < d := fun q => f.2 d' q hit
    have : d = d' := by omega
    rw [this, q2]; exact h2
def own_nz (vs : List Int64) : List Int64 := vs.filter (fun y => decide (y ≠ 0))
theorem own_nz_set {x : Int64} (hx : x ≠ 0) : ∀ (vs : List Int64) (r : Nat), r < vs.length → vs.getD r 0 = 0 → (own_nz (vs.set r x)).length = (own_nz vs).length + 1 := by
  intro vs
  induction vs with
  | nil => intro r h; exact absurd h (Nat.not_lt_zero _)
  | cons y t ih =>
    intro r h h0
    cases r with
    | zero =>
      have : y = 0 := by simpa [List.getD] using h0
      subst this
      simp [own_nz, hx]
    | succ r =>
      have := ih r (by simpa using h) (by simpa [List.getD] using h0)
      simp only [own_nz] at this ⊢
      by_cases q : y = 0
      · simp [q] at this ⊢; exact this
      · simp [q] at this ⊢; exact this
theorem own_nz_mem {vs : List Int64} {y : Int64} : y ∈ own_nz vs ↔ y ∈ vs ∧ y ≠ 0 := by simp [own_nz]
theorem own_nz_nodup {vs : List Int64} (ok : own_ok hs vs) : (own_nz vs).Nodup := by
  obtain ⟨hl, inv⟩ := ok
  have h1 : vs.Pairwise (fun a b => a ≠ 0 → a ≠ b) := by
    rw [List.pairwise_iff_getElem]
    intro i j hi hj hij hne heq
    have gi : vs.getD i 0 = vs[i] := by simp [List.getD, hi]
    have gj : vs.getD j 0 = vs[j] := by simp [List.getD, hj]
    obtain ⟨d1, a1, a2, a3⟩ := inv i (by omega) (by rw [gi]; exact hne)
    obtain ⟨d2, b1, b2, b3⟩ := inv j (by omega) (by rw [gj, ← heq]; exact hne)
    rw [gi] at a2 a3
    rw [gj, ← heq] at b2 b3
    have hit1 : own_hit hs vs vs[i] d1 := Or.inr (by rw [a2]; exact gi)
    have hit2 : own_hit hs vs vs[i] d2 := Or.inr (by rw [b2, gj]; exact heq.symm)
    have : ¬ d1 < d2 := fun q => b3 d1 q hit1
    have : ¬ d2 < d1 := fun q => a3 d2 q hit2
    have : d1 = d2 := by omega
    rw [this, b2] at a2
    omega
  have h2 := h1.filter (fun y => decide (y ≠ 0))
  unfold List.Nodup
  refine List.Pairwise.imp_of_mem (fun {a b} ha hb h => ?_) h2
  exact h (own_nz_mem.mp ha).2
theorem own_sub_len : ∀ (l1 l2 : List Int64), l1.Nodup → (∀ x ∈ l1, x ∈ l2) → l1.length ≤ l2.length := by
  intro l1
  induction l1 with
  | nil => intro l2 _ _; exact Nat.zero_le _
  | cons x t ih =>
    intro l2 nd sub
    rw [List.nodup_cons] at nd
    have hx : x ∈ l2 := sub x (by simp)
    have := ih (l2.erase x) nd.2 (fun y hy => by
      have ne : y ≠ x := fun q => nd.1 (by rw [← q]; exact hy)
      exact (List.mem_erase_of_ne ne).mpr (sub y (by simp [hy])))
    rw [List.length_erase_of_mem hx] at this
    have : 0 < l2.length := List.length_pos_of_mem hx
    simp only [List.length_cons]; omega
theorem own_same_len {l1 l2 : List Int64} (n1 : l1.Nodup) (n2 : l2.Nodup) (h : ∀ x, x ∈ l1 ↔ x ∈ l2) : l1.length = l2.length :=
  Nat.le_antisymm (own_sub_len _ _ n1 fun x q => (h x).mp q) (own_sub_len _ _ n2 fun x q => (h x).mpr q)
def own_add (D : List Int64) (x : Int64) : List Int64 := if x ∈ D then D else D ++ [x]
theorem own_add_mem {D : List Int64} {x y : Int64} : y ∈ own_add D x ↔ y ∈ D ∨ y = x := by
  unfold own_add
  split
  · exact ⟨Or.inl, fun q => q.elim id fun q => q ▸ ‹_›⟩
  · simp
theorem own_add_nodup {D : List Int64} (h : D.Nodup) (x : Int64) : (own_add D x).Nodup := by
  unfold own_add
  split
  · exact h
  · rename_i q
    rw [List.nodup_append]
    refine ⟨h, by simp, fun a ha b hb e => ?_⟩
    simp at hb; subst hb; subst e; exact q ha
theorem own_add_len (D : List Int64) (x : Int64) : (own_add D x).length ≤ D.length + 1 := by
  unfold own_add; split <;> simp
def own_R (D vs : List Int64) (cnt : Nat) (hz : Int32) : Prop := own_ok hs vs ∧ cnt = (own_nz vs).length ∧ (hz = 0 ∨ hz = 1) ∧ (hz = 1 ↔ 0 ∈ D) ∧ (∀ y, y ≠ 0 → (y ∈ vs ↔ y ∈ D)) ∧ D.Nodup
theorem own_R.cnt_le {D vs : List Int64} {cnt : Nat} {hz : Int32} (r : own_R hs D vs cnt hz) : cnt ≤ D.length := by
  obtain ⟨ok, rfl, -, -, m, nd⟩ := r
  exact own_sub_len _ _ (own_nz_nodup hs ok) fun x q => (m x (own_nz_mem.mp q).2).mp (own_nz_mem.mp q).1
theorem own_nz_full : ∀ vs : List Int64, (∀ i, i < vs.length → vs.getD i 0 ≠ 0) → (own_nz vs).length = vs.length := by
  intro vs
  induction vs with
  | nil => intro _; rfl
  | cons y t ih =>
    intro h
    have h0 : y ≠ 0 := by simpa [List.getD] using h 0 (by simp)
    have := ih fun i hi => by simpa [List.getD] using h (i + 1) (by simpa using hi)
    simp only [own_nz] at this ⊢
    simp [h0]; simpa using this
theorem own_R.zero {D vs : List Int64} {cnt : Nat} {hz : Int32} (r : own_R hs D vs cnt hz) (h : D.length < 16) : ∃ z, z < 16 ∧ vs.getD z 0 = 0 := by
  have c := r.cnt_le hs
  obtain ⟨⟨hl, inv⟩, rfl, -⟩ := r
  refine Classical.byContradiction fun q => ?_
  have := own_nz_full vs fun i hi h0 => q ⟨i, by omega, h0⟩
  omega
theorem own_R.hitx {D vs : List Int64} {cnt : Nat} {hz : Int32} (r : own_R hs D vs cnt hz) {x : Int64} (hx : x ≠ 0) {d : Nat} (f : own_first hs vs x d) (h : vs.getD ((hs x + d) % 16) 0 = x) : own_R hs (own_add D x) vs cnt hz := by
  obtain ⟨ok, h1, h2, h3, m, nd⟩ := r
  have : x ∈ D := (m x hx).mp ((own_found hs ok hx f).mp h)
  unfold own_add; rw [if_pos this]
  exact ⟨ok, h1, h2, h3, m, nd⟩
theorem own_R.newx {D vs : List Int64} {cnt : Nat} {hz : Int32} (r : own_R hs D vs cnt hz) {x : Int64} (hx : x ≠ 0) {d : Nat} (hd : d < 16) (f : own_first hs vs x d) (h : ¬ vs.getD ((hs x + d) % 16) 0 = x) : own_R hs (own_add D x) (vs.set ((hs x + d) % 16) x) (cnt + 1) hz := by
  obtain ⟨ok, h1, h2, h3, m, nd⟩ := r
  have h0 : vs.getD ((hs x + d) % 16) 0 = 0 := f.1.elim id fun q => absurd q h
  have hr : (hs x + d) % 16 < vs.length := by rw [ok.1]; omega
  refine ⟨own_ok_set hs ok hd f h0, by rw [own_nz_set hx _ _ hr h0, h1], h2, ?_, fun y hy => ?_, own_add_nodup nd x⟩
  · rw [h3, own_add_mem]; exact ⟨Or.inl, fun q => q.elim id fun q => absurd q.symm hx⟩
  · rw [own_add_mem, ← m y hy, own_mem, own_mem]
    constructor
    · rintro ⟨i, a, b⟩
      rw [List.length_set] at a
      rw [own_getset hr] at b
      by_cases q : i = (hs x + d) % 16
      · rw [if_pos q] at b; exact Or.inr b.symm
      · rw [if_neg q] at b; exact Or.inl ⟨i, a, b⟩
    · rintro (⟨i, a, b⟩ | q)
      · refine ⟨i, by rw [List.length_set]; exact a, ?_⟩
        rw [own_getset hr]
        by_cases q : i = (hs x + d) % 16
        · exact absurd (by rw [← b, q]; exact h0) hy
        · rw [if_neg q]; exact b
      · exact ⟨_, by rw [List.length_set]; exact hr, by rw [own_getset hr, if_pos rfl]; exact q.symm⟩
theorem own_R.zerox {D vs : List Int64} {cnt : Nat} {hz : Int32} (r : own_R hs D vs cnt hz) : own_R hs (own_add D 0) vs cnt 1 := by
  obtain ⟨ok, h1, h2, h3, m, nd⟩ := r
  refine ⟨ok, h1, Or.inr rfl, by simp [own_add_mem], fun y hy => ?_, own_add_nodup nd 0⟩
  rw [m y hy, own_add_mem]; exact ⟨Or.inl, fun q => q.elim id fun q => absurd q hy⟩
theorem own_R.start : own_R hs [] (List.replicate 16 0) 0 0 := by
  refine ⟨⟨by simp, fun i hi h => absurd (by rw [List.getD, List.getElem?_replicate]; split <;> rfl) h⟩, by simp [own_nz], Or.inl rfl, by simp, fun y hy => by simp [hy], by simp⟩
def own_out (vs : List Int64) (hz : Int32) : List Int64 := own_nz vs ++ if hz = 0 then [] else [0]
theorem own_R.out {D vs : List Int64} {cnt : Nat} {hz : Int32} (r : own_R hs D vs cnt hz) : (own_out vs hz).Nodup ∧ (∀ x, x ∈ own_out vs hz ↔ x ∈ D) ∧ (own_out vs hz).length = D.length := by
  obtain ⟨ok, h1, h2, h3, m, nd⟩ := r
  have n1 : (own_out vs hz).Nodup := by
    unfold own_out
    rw [List.nodup_append]
    refine ⟨own_nz_nodup hs ok, by split <;> simp, fun a ha b hb e => ?_⟩
    split at hb
    · simp at hb
    · simp at hb; subst e; exact (own_nz_mem.mp ha).2 hb
  have n2 : ∀ x, x ∈ own_out vs hz ↔ x ∈ D := fun x => by
    unfold own_out
    rw [List.mem_append, own_nz_mem]
    by_cases q : x = 0
    · subst q
      rw [← h3]
      rcases h2 with rfl | rfl <;> simp
    · rw [← m x q]
      constructor
      · rintro (h | h)
        · exact h.1
        · split at h
          · simp at h
          · simp at h; exact absurd h q
      · intro h; exact Or.inl ⟨h, q⟩
  exact ⟨n1, n2, own_same_len n1 nd n2⟩
end
theorem own_selp {Z s : State} {a0 args : Array Value} {y : MethodName} {n : Nat} (hZ : Z.Warmed39 s.vm) (wp : (Cond.privateMethod y).before a0 Z = true) (wi : (Cond.instanceMethod y).before a0 Z = true) (wc : (Cond.instantiable y.cls n).before a0 Z = true) (hy : y.cls ≠ "java/lang/invoke/MethodHandle" ∧ y.cls ≠ "java/lang/invoke/VarHandle") : (Cond.selects y.cls y y).before args s = true := by
  have wc' : (Cond.instantiable y.cls n).before args s = true := mvT hZ wc
  obtain ⟨c, k, h1, h2, -, h4, -⟩ := Cond.instantiable_spec wc'
  rw [Bool.or_eq_false_iff] at h4
  exact selects_self_of_private h1 h2 h4.1 (Cond.privateMethod_at (mvP hZ wp (args := #[]))) (mvT hZ wi) hy
theorem own_specialRef {p : Program} {l : Launch} {e : Env} {R : Room} {s : State} {m : MethodId} {args : Array Value} {below : List Frame} {meth : Method} {c : Code} {T : State} {locs : List Loc} {cells slots : Nat} {Z : State} {a0 : Array Value} (X : Stand p l e R s m args below meth c T locs cells slots) (hexec : p.tables.exec = Jvm.exec) (hZ : Z.Warmed39 s.vm) {own : String} {index : Nat} {y : MethodName} (hy1 : y.name = "<init>")
    (hown : s.vm.findClass own = some m.cls) (href : (Cond.methodRef own index y).before a0 Z = true) (hinst : (Cond.instanceMethod y).before args s = true)
    {bytes : ByteArray} {maxL : Nat} (hcode : (Cond.code y bytes maxL none).before args s = true)
    (hy : y.cls ≠ "java/lang/invoke/MethodHandle" ∧ y.cls ≠ "java/lang/invoke/VarHandle")
    {W : Nat} {Pre : Pt → Array Value → Prop} {Post : Pt → Array Value → Option Value → Pt → Prop} (hK : Back l R p e below s args y 3 W Pre Post)
    {g : JFrame} (hg : g.method = m) (hsize : g.locals.size = c.maxLocals) {s₀ : State} (hcome : Steps p.tables e below s₀ (T.setTop g)) {a : Addr} {argsL rest : List Value}
    (hlen : ∀ sig, parseMethodDescriptor y.desc = some sig → argsL.length = sig.parameters.length) (hstack : g.stack = argsL.reverse ++ .ref a :: rest) (hW : 2 * g.monitorRoom + (rest.map fun v => v.category).sum ≤ W)
    (hdg : decode c.code g.pc = .ok (.invokespecial index, 3)) (hpre : ∀ vm₁, s.WarmedH vm₁ → Pre ⟨T.setVm vm₁, locs, cells, slots⟩ (.ref a :: argsL).toArray) :
    ∃ (v : Option Value) (vm₁ : Vm) (B : Pt), s.WarmedH vm₁ ∧ Stand p l e R s m args below meth c B.U B.locs B.cells B.slots ∧ Post ⟨T.setVm vm₁, locs, cells, slots⟩ (.ref a :: argsL).toArray v B ∧
      Steps p.tables e below s₀ (B.U.setTop { g with pc := g.pc + 3, stack := v.toList ++ rest }) := by
  subst hg
  obtain ⟨obj, methO, hnO, hmO, hstO, habO⟩ := Cond.instanceMethod_spec hinst
  obtain ⟨methO', cO, hmO', -, -, -, -, -, -, hsigO⟩ := Cond.code_spec hnO hcode
  cases hmO.symm.trans hmO'
  have hal := X.warmed.alike
  have hT : Z.Warmed39 T.vm := wtrans hZ X.warmed
  have hnZ : Z.methodNamed? y = some obj := by
    rw [← State.methodNamed?_setVm hZ.alike, State.methodNamed?_of_vm (show (Z.setVm s.vm).vm = s.vm from rfl)]; exact hnO
  have hr : (Cond.methodRef own index y).before a0 (Z.setVm T.vm) = true := Cond.methodRef_warmed39 hT hnZ hy href
  have hownT : (Z.setVm T.vm).vm.findClass own = some g.method.cls := by show T.vm.findClass own = _; rw [hal.findClass]; exact hown
  obtain ⟨m1, c', hm1, hready, hfind, hnames⟩ := Cond.methodRef_named e hownT hr
  have hnT : (Z.setVm T.vm).methodNamed? y = some obj := by rw [State.methodNamed?_setVm hT.alike]; exact hnZ
  cases hm1.symm.trans (State.methodFound?_of_named hnT hy)
  cases hfind.symm.trans (findClass_of_methodNamed hnT)
  obtain ⟨kO, hkO, hnameO⟩ := className_of_methodNamed hnO
  obtain ⟨hnameMO, hdescO⟩ := name_of_methodNamed hnO hmO
  obtain ⟨kT, hkT, -⟩ := hal.2.2 _ _ hkO
  have hmT : T.vm.method? obj = some methO := by rw [hal.method?]; exact hmO
  have hfound : lookupSpecial T.vm obj.cls "<init>" methO.desc = .method obj := by
    rw [hal.lookupSpecial, hdescO, ← hy1]; exact lookupSpecial_of_named hnO hmO hstO
  have hstep : ∀ target, (∀ acts, Steps p.tables e below (doInvoke e ((T.setVm T.vm).setTop { g with stack := rest }) acts obj (.ref a :: argsL).toArray).1 target) → Steps p.tables e below (T.setTop g) target := fun target hrest => by
    jvm_step X.here [hexec, hdg, invokespecial.wp_init (e := e) (s := T) (k := kT) (meth := methO) (m := obj) (a := a) (args := argsL) (rest := rest) (f := g) X.here.top hnames hready hkT hmT (by rw [hnameMO]; exact hy1) hstO habO hfound (hlen _ hsigO) hstack]
    exact hrest
  have X₁ : Stand p l e R s g.method args below meth c (T.setVm T.vm) locs cells slots := X.noted X.warmed
  obtain ⟨v, B, X', hpost, hsteps⟩ := hK g.method meth c ⟨T.setVm T.vm, locs, cells, slots⟩ { g with stack := rest } (.invokespecial index) obj (.ref a :: argsL).toArray X₁ rfl hsize hdg hW (X₁.named hnO) (hpre T.vm X.warmed)
  exact ⟨v, T.vm, B, X.warmed, X', hpost, (hcome.trans (hstep _ fun acts => by rw [doInvoke_state]; exact Steps.refl _)).trans hsteps⟩
def own_J (Z : State) (h : Heap) (b : Addr) (xs : List Int64) : Prop := ∃ cl : Cell, Arr Z h b cl .long ∧ cl.slots.size = xs.length ∧ ∀ i, i < xs.length → cl.slots[i]? = some (.long (xs.getD i 0))
theorem own_J.ext {Z : State} {h h' : Heap} {b : Addr} {xs : List Int64} (A : own_J Z h b xs) (E : Ext h h') : own_J Z h' b xs := by obtain ⟨cl, A, r⟩ := A; exact ⟨cl, A.ext E, r⟩
theorem own_J.other {Z : State} {h h' : Heap} {a b : Addr} {sl : Nat} {v : Value} {xs : List Int64} (A : own_J Z h b xs) (W : Wr h h' a sl v) (q : b ≠ a) : own_J Z h' b xs := by obtain ⟨cl, A, r⟩ := A; exact ⟨cl, A.other W q, r⟩
theorem own_J.keep {Z : State} {h h' : Heap} {b : Addr} {ws : List Addr} {xs : List Int64} (A : own_J Z h b xs) (Q : Keep h h' ws) (q : b ∉ ws) : own_J Z h' b xs := by obtain ⟨cl, A, r⟩ := A; exact ⟨cl, ⟨Q.2.1 b cl A.1 q, A.2⟩, r⟩
theorem own_J.lt {Z : State} {h : Heap} {b : Addr} {xs : List Int64} (A : own_J Z h b xs) : b < h.size := by obtain ⟨cl, A, r⟩ := A; exact A.lt
theorem own_J.ne {Z : State} {h : Heap} {a b : Addr} {a0 : Array Value} {C : String} {k : Nat} {xs : List Int64} (A : own_J Z h b xs) (E : Exa Z h a C) (wi : (Cond.instantiable C k).before a0 Z = true) : a ≠ b := by obtain ⟨cl, A, r⟩ := A; exact ne_arr E wi A
theorem own_J.new {Z : State} {h : Heap} {b : Addr} {k : ClassId} {n : Int32} (A : Arr Z h b (newA k .long n) .long) : own_J Z h b (List.replicate n.toNatClampNeg 0) :=
  ⟨_, A, by rw [sz_new]; simp, fun i hi => by
    have q : i < n.toNatClampNeg := by simpa using hi
    simp [newA, q, defaultValue, List.getD]⟩
theorem own_st {p : Program} {l : Launch} {e : Env} {R : Room} {s : State} {m : MethodId} {args : Array Value} {below : List Frame} {meth : Method} {c : Code} {T : State} {locs : List Loc} {cells slots : Nat} {Z : State} {h : Heap} {n0 : Nat} {b : Addr} {xs : List Int64}
    (X : Stand p l e R s m args below meth c T locs cells slots) (hx : p.tables.exec = Jvm.exec) (hZ : Z.Warmed39 s.vm) (eT : T.heap = h) (A : own_J Z h b xs) (gb : n0 ≤ b) (N : Fr n0 locs) (j : Int32) (i : Nat) (hj : ¬ j < 0 ∧ j.toNatClampNeg = i) (hi : i < xs.length) (x : Int64) {g : JFrame} (hg : g.method = m) {rest : List Value} (hs : g.stack = .long x :: .int j :: .ref b :: rest) (hd : decode c.code g.pc = .ok (.lastore, 1)) :
    ∃ T' h' L', Stand p l e R s m args below meth c T' L' cells slots ∧ T'.heap = h' ∧ own_J Z h' b (xs.set i x) ∧ Fr n0 L' ∧ h'.size = h.size ∧ Keep h h' [b] ∧ ∀ target, Steps p.tables e below (T'.setTop { g with pc := g.pc + 1, stack := rest }) target → Steps p.tables e below (T.setTop g) target := by
  obtain ⟨cl, Ar, S, H⟩ := A
  obtain ⟨h1, h2⟩ := hj
  obtain ⟨T', h', X', e', W, st⟩ := stJ X hx hZ eT Ar (j := j) (x := x) (fun q => q.elim h1 fun q => by rw [S, h2] at q; omega) hg hs hd
  refine ⟨T', h', _, X', e', ⟨_, Ar.same W, by rw [sz_set, List.length_set]; exact S, fun u hu => ?_⟩, Fr.snoc X' N gb, W.size, Keep.of_wr W, st⟩
  rw [List.length_set] at hu
  by_cases q : i = u
  · subst q; simp [Cell.setSlot, S, hi, h2, List.getD]
  · have := H u hu
    rw [Cell.setSlot, h2]
    refine (Array.getElem?_setIfInBounds_ne q).trans ?_
    simpa [List.getD, List.getElem?_set_ne q] using this
theorem own_toInt {i : Nat} (h : i < 2 ^ 31) : i.toInt32.toInt = i := len_toInt h
theorem own_nat {i : Nat} (h : i < 2 ^ 31) : ¬ i.toInt32 < 0 ∧ i.toInt32.toNatClampNeg = i := by
  rw [Int32.lt_iff_toInt_lt, Int32.toNatClampNeg, own_toInt h]; exact ⟨by show ¬ (i : Int) < 0; omega, by omega⟩
theorem own_lt {i n : Nat} (hi : i < 2 ^ 31) (hn : n < 2 ^ 31) : i.toInt32 < n.toInt32 ↔ i < n := by
  rw [Int32.lt_iff_toInt_lt, own_toInt hi, own_toInt hn]; omega
theorem own_eq {i n : Nat} (hi : i < 2 ^ 31) (hn : n < 2 ^ 31) : i.toInt32 = n.toInt32 ↔ i = n := by
  rw [← Int32.toInt_inj, own_toInt hi, own_toInt hn]; omega
theorem own_succ (i : Nat) : i.toInt32 + 1 = (i + 1).toInt32 := by
  show Int32.ofNat i + Int32.ofNat 1 = Int32.ofNat (i + 1)
  exact (Int32.ofNat_add i 1).symm
theorem own_ix {cl : Cell} {ws : List Int64} {i : Nat} (S : cl.slots.size = ws.length) (hi : i < ws.length) (hl : ws.length < 2 ^ 31) : ¬ (i.toInt32 < 0 ∨ cl.slots.size ≤ i.toInt32.toNatClampNeg) := by
  obtain ⟨a, b⟩ := own_nat (Nat.lt_trans hi hl)
  rw [S, b]; rintro (q | q)
  · exact a q
  · omega
theorem own_ld {cl : Cell} {ws : List Int64} {i : Nat} (H : ∀ i, i < ws.length → cl.slots[i]? = some (.long (ws.getD i 0))) (hi : i < ws.length) (hl : ws.length < 2 ^ 31) : cl.slots[i.toInt32.toNatClampNeg]? = some (.long (ws.getD i 0)) := by
  rw [(own_nat (Nat.lt_trans hi hl)).2]; exact H i hi
def own_K (Z : State) (h : Heap) (a t : Addr) (vs : List Int64) (cnt : Nat) (hz : Int32) : Prop := Exa Z h a "com/example/intact_keys/intactkeys/check/KeySet" ∧ Fld Z h a "com/example/intact_keys/intactkeys/check/KeySet" "slots" "[J" (.ref t) ∧ Fld Z h a "com/example/intact_keys/intactkeys/check/KeySet" "bits" "I" (.int 4) ∧ Fld Z h a "com/example/intact_keys/intactkeys/check/KeySet" "packedCount" "I" (.int cnt.toInt32) ∧ Fld Z h a "com/example/intact_keys/intactkeys/check/KeySet" "holdsZero" "Z" (.int hz) ∧ own_J Z h t vs
theorem own_K.keep {Z : State} {h h' : Heap} {a t : Addr} {ws : List Addr} {vs : List Int64} {cnt : Nat} {hz : Int32} (A : own_K Z h a t vs cnt hz) (Q : Keep h h' ws) (q1 : a ∉ ws) (q2 : t ∉ ws) : own_K Z h' a t vs cnt hz := by
  obtain ⟨x1, x2, x3, x4, x5, x6⟩ := A
  exact ⟨x1.keep Q, x2.keep Q q1, x3.keep Q q1, x4.keep Q q1, x5.keep Q q1, x6.keep Q q2⟩
theorem pn_K : plainName "com/example/intact_keys/intactkeys/check/KeySet" = true := by first | (simp [plainName, overriddenIn]; done) | decide +kernel
theorem pn_E : plainName "com/example/intact_keys/intactkeys/check/KeySet$Encoded" = true := by first | (simp [plainName, overriddenIn]; done) | decide +kernel
theorem pn_I : plainName "java/lang/Integer" = true := by first | (simp [plainName, overriddenIn]; done) | decide +kernel
theorem pn_L : plainName "com/example/intact_keys/intactkeys/check/KeySetPackedValuesPinLaw" = true := by first | (simp [plainName, overriddenIn]; done) | decide +kernel
def own_ntz_f74 (q1 : Int32) (n1 : Int32) : Int32 := (n1 + ((q1.toUInt32 >>> ((1 : Int32) &&& 31).toUInt32).toInt32))
set_option maxRecDepth 65536 in
set_option maxHeartbeats 40000000 in
theorem own_ntz_b74 {p : Program} {l : Launch} {e : Env} {R : Room} {s : State} {m : MethodId} {args : Array Value} {below : List Frame} {meth : Method} {c : Code} {T0 : State} {locs : List Loc} {cells slots : Nat} {Z : State} {a0 : Array Value} {h0 : Heap} (q1 : Int32) (n1 : Int32)
    (X0 : Stand p l e R s m args below meth c T0 locs cells slots) (hx : p.tables.exec = Jvm.exec) (hZ : Z.Warmed39 s.vm) (hw : ∀ d ∈ tables_1, d.before a0 Z = true) (hby : c.code = jdk_33_method_48_code) (hml : c.maxLocals = 2) (hown : s.vm.findClass "java/lang/Integer" = some m.cls) (e0 : T0.heap = h0)  (F : Int32) (hF : F = own_ntz_f74  q1 n1) :
    ∃ (T' : State) (pc' : Nat) (Ls : Array Slot), Stand p l e R s m args below meth c T' locs cells slots ∧ T'.heap = h0 ∧ decode c.code pc' = .ok (.ireturn, 1) ∧
      ∀ target, Steps p.tables e below (T'.setTop (mkF m pc' Ls [.int F])) target → Steps p.tables e below (T0.setTop (mkF m 74 #[.val (.int q1), .val (.int n1)] [])) target := by
  have hv : F = (n1 + ((q1.toUInt32 >>> ((1 : Int32) &&& 31).toUInt32).toInt32)) := (hF.trans (by rw [own_ntz_f74]))
  refine ⟨T0, 79, #[.val (.int q1), .val (.int n1)], X0, e0, (hb hby d3_79), fun target kt => ?_⟩
  rw [hv] at kt
  show Steps p.tables e below (T0.setTop (mkF m 74 #[.val (.int q1), .val (.int n1)] [])) _
  refine XS.iloadN X0.here hx rfl (hb hby d3_74) rfl ?_
  show Steps p.tables e below (T0.setTop (mkF m 75 #[.val (.int q1), .val (.int n1)] [(.int n1)])) _
  refine XS.iloadN X0.here hx rfl (hb hby d3_75) rfl ?_
  show Steps p.tables e below (T0.setTop (mkF m 76 #[.val (.int q1), .val (.int n1)] [(.int q1), (.int n1)])) _
  refine XS.iconst X0.here hx rfl (hb hby d3_76) ?_
  show Steps p.tables e below (T0.setTop (mkF m 77 #[.val (.int q1), .val (.int n1)] [(.int (1 : Int32)), (.int q1), (.int n1)])) _
  refine XS.iushr X0.here hx rfl (hb hby d3_77) rfl ?_
  show Steps p.tables e below (T0.setTop (mkF m 78 #[.val (.int q1), .val (.int n1)] [(.int ((q1.toUInt32 >>> ((1 : Int32) &&& 31).toUInt32).toInt32)), (.int n1)])) _
  refine XS.iadd X0.here hx rfl (hb hby d3_78) rfl ?_
  show Steps p.tables e below (T0.setTop (mkF m 79 #[.val (.int q1), .val (.int n1)] [(.int (n1 + ((q1.toUInt32 >>> ((1 : Int32) &&& 31).toUInt32).toInt32)))])) _
  exact kt
def own_ntz_f62 (q1 : Int32) (n1 : Int32) : Int32 := (if (4 : Int32) < q1 then (own_ntz_f74  ((q1.toUInt32 >>> ((2 : Int32) &&& 31).toUInt32).toInt32) (n1 + (2 : Int32))) else (own_ntz_f74  q1 n1))
set_option maxRecDepth 65536 in
set_option maxHeartbeats 40000000 in
theorem own_ntz_b62 {p : Program} {l : Launch} {e : Env} {R : Room} {s : State} {m : MethodId} {args : Array Value} {below : List Frame} {meth : Method} {c : Code} {T0 : State} {locs : List Loc} {cells slots : Nat} {Z : State} {a0 : Array Value} {h0 : Heap} (q1 : Int32) (n1 : Int32)
    (X0 : Stand p l e R s m args below meth c T0 locs cells slots) (hx : p.tables.exec = Jvm.exec) (hZ : Z.Warmed39 s.vm) (hw : ∀ d ∈ tables_1, d.before a0 Z = true) (hby : c.code = jdk_33_method_48_code) (hml : c.maxLocals = 2) (hown : s.vm.findClass "java/lang/Integer" = some m.cls) (e0 : T0.heap = h0)  (F : Int32) (hF : F = own_ntz_f62  q1 n1) :
    ∃ (T' : State) (pc' : Nat) (Ls : Array Slot), Stand p l e R s m args below meth c T' locs cells slots ∧ T'.heap = h0 ∧ decode c.code pc' = .ok (.ireturn, 1) ∧
      ∀ target, Steps p.tables e below (T'.setTop (mkF m pc' Ls [.int F])) target → Steps p.tables e below (T0.setTop (mkF m 62 #[.val (.int q1), .val (.int n1)] [])) target := by
  by_cases hc64_1 : (4 : Int32) < q1
  · obtain ⟨T', pc', Ls, X', e', hd', st'⟩ := own_ntz_b74  ((q1.toUInt32 >>> ((2 : Int32) &&& 31).toUInt32).toInt32) (n1 + (2 : Int32)) X0 hx hZ hw hby hml hown e0  F (hF.trans (by rw [own_ntz_f62, if_pos hc64_1]))
    refine ⟨T', pc', Ls, X', e', hd', fun target kt => ?_⟩
    show Steps p.tables e below (T0.setTop (mkF m 62 #[.val (.int q1), .val (.int n1)] [])) _
    refine XS.iloadN X0.here hx rfl (hb hby d3_62) rfl ?_
    show Steps p.tables e below (T0.setTop (mkF m 63 #[.val (.int q1), .val (.int n1)] [(.int q1)])) _
    refine XS.iconst X0.here hx rfl (hb hby d3_63) ?_
    show Steps p.tables e below (T0.setTop (mkF m 64 #[.val (.int q1), .val (.int n1)] [(.int (4 : Int32)), (.int q1)])) _
    refine XS.icmpNo X0.here hx rfl (hb hby d3_64) rfl (tlt hc64_1).2.2.2 ?_
    show Steps p.tables e below (T0.setTop (mkF m 67 #[.val (.int q1), .val (.int n1)] [])) _
    refine XS.iinc X0.here hx rfl (hb hby d3_67) rfl (l' := #[.val (.int q1), .val (.int (n1 + (2 : Int32)))]) rfl ?_
    show Steps p.tables e below (T0.setTop (mkF m 70 #[.val (.int q1), .val (.int (n1 + (2 : Int32)))] [])) _
    refine XS.iloadN X0.here hx rfl (hb hby d3_70) rfl ?_
    show Steps p.tables e below (T0.setTop (mkF m 71 #[.val (.int q1), .val (.int (n1 + (2 : Int32)))] [(.int q1)])) _
    refine XS.iconst X0.here hx rfl (hb hby d3_71) ?_
    show Steps p.tables e below (T0.setTop (mkF m 72 #[.val (.int q1), .val (.int (n1 + (2 : Int32)))] [(.int (2 : Int32)), (.int q1)])) _
    refine XS.iushr X0.here hx rfl (hb hby d3_72) rfl ?_
    show Steps p.tables e below (T0.setTop (mkF m 73 #[.val (.int q1), .val (.int (n1 + (2 : Int32)))] [(.int ((q1.toUInt32 >>> ((2 : Int32) &&& 31).toUInt32).toInt32))])) _
    refine XS.istoreN X0.here hx rfl (hb hby d3_73) rfl (l' := #[.val (.int ((q1.toUInt32 >>> ((2 : Int32) &&& 31).toUInt32).toInt32)), .val (.int (n1 + (2 : Int32)))]) rfl ?_
    exact st' target kt
  · obtain ⟨T', pc', Ls, X', e', hd', st'⟩ := own_ntz_b74  q1 n1 X0 hx hZ hw hby hml hown e0  F (hF.trans (by rw [own_ntz_f62, if_neg hc64_1]))
    refine ⟨T', pc', Ls, X', e', hd', fun target kt => ?_⟩
    show Steps p.tables e below (T0.setTop (mkF m 62 #[.val (.int q1), .val (.int n1)] [])) _
    refine XS.iloadN X0.here hx rfl (hb hby d3_62) rfl ?_
    show Steps p.tables e below (T0.setTop (mkF m 63 #[.val (.int q1), .val (.int n1)] [(.int q1)])) _
    refine XS.iconst X0.here hx rfl (hb hby d3_63) ?_
    show Steps p.tables e below (T0.setTop (mkF m 64 #[.val (.int q1), .val (.int n1)] [(.int (4 : Int32)), (.int q1)])) _
    refine XS.icmpYes X0.here hx rfl (pc0 := 64) (pc' := 74) rfl (hb hby d3_64) rfl (flt hc64_1).2.2.2 (by decide) (by decide) ?_
    exact st' target kt
def own_ntz_f49 (q1 : Int32) (n1 : Int32) : Int32 := (if (16 : Int32) < q1 then (own_ntz_f62  ((q1.toUInt32 >>> ((4 : Int32) &&& 31).toUInt32).toInt32) (n1 + (4 : Int32))) else (own_ntz_f62  q1 n1))
set_option maxRecDepth 65536 in
set_option maxHeartbeats 40000000 in
theorem own_ntz_b49 {p : Program} {l : Launch} {e : Env} {R : Room} {s : State} {m : MethodId} {args : Array Value} {below : List Frame} {meth : Method} {c : Code} {T0 : State} {locs : List Loc} {cells slots : Nat} {Z : State} {a0 : Array Value} {h0 : Heap} (q1 : Int32) (n1 : Int32)
    (X0 : Stand p l e R s m args below meth c T0 locs cells slots) (hx : p.tables.exec = Jvm.exec) (hZ : Z.Warmed39 s.vm) (hw : ∀ d ∈ tables_1, d.before a0 Z = true) (hby : c.code = jdk_33_method_48_code) (hml : c.maxLocals = 2) (hown : s.vm.findClass "java/lang/Integer" = some m.cls) (e0 : T0.heap = h0)  (F : Int32) (hF : F = own_ntz_f49  q1 n1) :
    ∃ (T' : State) (pc' : Nat) (Ls : Array Slot), Stand p l e R s m args below meth c T' locs cells slots ∧ T'.heap = h0 ∧ decode c.code pc' = .ok (.ireturn, 1) ∧
      ∀ target, Steps p.tables e below (T'.setTop (mkF m pc' Ls [.int F])) target → Steps p.tables e below (T0.setTop (mkF m 49 #[.val (.int q1), .val (.int n1)] [])) target := by
  by_cases hc52_1 : (16 : Int32) < q1
  · obtain ⟨T', pc', Ls, X', e', hd', st'⟩ := own_ntz_b62  ((q1.toUInt32 >>> ((4 : Int32) &&& 31).toUInt32).toInt32) (n1 + (4 : Int32)) X0 hx hZ hw hby hml hown e0  F (hF.trans (by rw [own_ntz_f49, if_pos hc52_1]))
    refine ⟨T', pc', Ls, X', e', hd', fun target kt => ?_⟩
    show Steps p.tables e below (T0.setTop (mkF m 49 #[.val (.int q1), .val (.int n1)] [])) _
    refine XS.iloadN X0.here hx rfl (hb hby d3_49) rfl ?_
    show Steps p.tables e below (T0.setTop (mkF m 50 #[.val (.int q1), .val (.int n1)] [(.int q1)])) _
    refine XS.bipush X0.here hx rfl (hb hby d3_50) ?_
    show Steps p.tables e below (T0.setTop (mkF m 52 #[.val (.int q1), .val (.int n1)] [(.int (16 : Int32)), (.int q1)])) _
    refine XS.icmpNo X0.here hx rfl (hb hby d3_52) rfl (tlt hc52_1).2.2.2 ?_
    show Steps p.tables e below (T0.setTop (mkF m 55 #[.val (.int q1), .val (.int n1)] [])) _
    refine XS.iinc X0.here hx rfl (hb hby d3_55) rfl (l' := #[.val (.int q1), .val (.int (n1 + (4 : Int32)))]) rfl ?_
    show Steps p.tables e below (T0.setTop (mkF m 58 #[.val (.int q1), .val (.int (n1 + (4 : Int32)))] [])) _
    refine XS.iloadN X0.here hx rfl (hb hby d3_58) rfl ?_
    show Steps p.tables e below (T0.setTop (mkF m 59 #[.val (.int q1), .val (.int (n1 + (4 : Int32)))] [(.int q1)])) _
    refine XS.iconst X0.here hx rfl (hb hby d3_59) ?_
    show Steps p.tables e below (T0.setTop (mkF m 60 #[.val (.int q1), .val (.int (n1 + (4 : Int32)))] [(.int (4 : Int32)), (.int q1)])) _
    refine XS.iushr X0.here hx rfl (hb hby d3_60) rfl ?_
    show Steps p.tables e below (T0.setTop (mkF m 61 #[.val (.int q1), .val (.int (n1 + (4 : Int32)))] [(.int ((q1.toUInt32 >>> ((4 : Int32) &&& 31).toUInt32).toInt32))])) _
    refine XS.istoreN X0.here hx rfl (hb hby d3_61) rfl (l' := #[.val (.int ((q1.toUInt32 >>> ((4 : Int32) &&& 31).toUInt32).toInt32)), .val (.int (n1 + (4 : Int32)))]) rfl ?_
    exact st' target kt
  · obtain ⟨T', pc', Ls, X', e', hd', st'⟩ := own_ntz_b62  q1 n1 X0 hx hZ hw hby hml hown e0  F (hF.trans (by rw [own_ntz_f49, if_neg hc52_1]))
    refine ⟨T', pc', Ls, X', e', hd', fun target kt => ?_⟩
    show Steps p.tables e below (T0.setTop (mkF m 49 #[.val (.int q1), .val (.int n1)] [])) _
    refine XS.iloadN X0.here hx rfl (hb hby d3_49) rfl ?_
    show Steps p.tables e below (T0.setTop (mkF m 50 #[.val (.int q1), .val (.int n1)] [(.int q1)])) _
    refine XS.bipush X0.here hx rfl (hb hby d3_50) ?_
    show Steps p.tables e below (T0.setTop (mkF m 52 #[.val (.int q1), .val (.int n1)] [(.int (16 : Int32)), (.int q1)])) _
    refine XS.icmpYes X0.here hx rfl (pc0 := 52) (pc' := 62) rfl (hb hby d3_52) rfl (flt hc52_1).2.2.2 (by decide) (by decide) ?_
    exact st' target kt
def own_ntz_f34 (q1 : Int32) (n1 : Int32) : Int32 := (if (256 : Int32) < q1 then (own_ntz_f49  ((q1.toUInt32 >>> ((8 : Int32) &&& 31).toUInt32).toInt32) (n1 + (8 : Int32))) else (own_ntz_f49  q1 n1))
set_option maxRecDepth 65536 in
set_option maxHeartbeats 40000000 in
theorem own_ntz_b34 {p : Program} {l : Launch} {e : Env} {R : Room} {s : State} {m : MethodId} {args : Array Value} {below : List Frame} {meth : Method} {c : Code} {T0 : State} {locs : List Loc} {cells slots : Nat} {Z : State} {a0 : Array Value} {h0 : Heap} (q1 : Int32) (n1 : Int32)
    (X0 : Stand p l e R s m args below meth c T0 locs cells slots) (hx : p.tables.exec = Jvm.exec) (hZ : Z.Warmed39 s.vm) (hw : ∀ d ∈ tables_1, d.before a0 Z = true) (hby : c.code = jdk_33_method_48_code) (hml : c.maxLocals = 2) (hown : s.vm.findClass "java/lang/Integer" = some m.cls) (e0 : T0.heap = h0)  (F : Int32) (hF : F = own_ntz_f34  q1 n1) :
    ∃ (T' : State) (pc' : Nat) (Ls : Array Slot), Stand p l e R s m args below meth c T' locs cells slots ∧ T'.heap = h0 ∧ decode c.code pc' = .ok (.ireturn, 1) ∧
      ∀ target, Steps p.tables e below (T'.setTop (mkF m pc' Ls [.int F])) target → Steps p.tables e below (T0.setTop (mkF m 34 #[.val (.int q1), .val (.int n1)] [])) target := by
  by_cases hc38_1 : (256 : Int32) < q1
  · obtain ⟨T', pc', Ls, X', e', hd', st'⟩ := own_ntz_b49  ((q1.toUInt32 >>> ((8 : Int32) &&& 31).toUInt32).toInt32) (n1 + (8 : Int32)) X0 hx hZ hw hby hml hown e0  F (hF.trans (by rw [own_ntz_f34, if_pos hc38_1]))
    refine ⟨T', pc', Ls, X', e', hd', fun target kt => ?_⟩
    show Steps p.tables e below (T0.setTop (mkF m 34 #[.val (.int q1), .val (.int n1)] [])) _
    refine XS.iloadN X0.here hx rfl (hb hby d3_34) rfl ?_
    show Steps p.tables e below (T0.setTop (mkF m 35 #[.val (.int q1), .val (.int n1)] [(.int q1)])) _
    refine XS.sipush X0.here hx rfl (hb hby d3_35) ?_
    show Steps p.tables e below (T0.setTop (mkF m 38 #[.val (.int q1), .val (.int n1)] [(.int (256 : Int32)), (.int q1)])) _
    refine XS.icmpNo X0.here hx rfl (hb hby d3_38) rfl (tlt hc38_1).2.2.2 ?_
    show Steps p.tables e below (T0.setTop (mkF m 41 #[.val (.int q1), .val (.int n1)] [])) _
    refine XS.iinc X0.here hx rfl (hb hby d3_41) rfl (l' := #[.val (.int q1), .val (.int (n1 + (8 : Int32)))]) rfl ?_
    show Steps p.tables e below (T0.setTop (mkF m 44 #[.val (.int q1), .val (.int (n1 + (8 : Int32)))] [])) _
    refine XS.iloadN X0.here hx rfl (hb hby d3_44) rfl ?_
    show Steps p.tables e below (T0.setTop (mkF m 45 #[.val (.int q1), .val (.int (n1 + (8 : Int32)))] [(.int q1)])) _
    refine XS.bipush X0.here hx rfl (hb hby d3_45) ?_
    show Steps p.tables e below (T0.setTop (mkF m 47 #[.val (.int q1), .val (.int (n1 + (8 : Int32)))] [(.int (8 : Int32)), (.int q1)])) _
    refine XS.iushr X0.here hx rfl (hb hby d3_47) rfl ?_
    show Steps p.tables e below (T0.setTop (mkF m 48 #[.val (.int q1), .val (.int (n1 + (8 : Int32)))] [(.int ((q1.toUInt32 >>> ((8 : Int32) &&& 31).toUInt32).toInt32))])) _
    refine XS.istoreN X0.here hx rfl (hb hby d3_48) rfl (l' := #[.val (.int ((q1.toUInt32 >>> ((8 : Int32) &&& 31).toUInt32).toInt32)), .val (.int (n1 + (8 : Int32)))]) rfl ?_
    exact st' target kt
  · obtain ⟨T', pc', Ls, X', e', hd', st'⟩ := own_ntz_b49  q1 n1 X0 hx hZ hw hby hml hown e0  F (hF.trans (by rw [own_ntz_f34, if_neg hc38_1]))
    refine ⟨T', pc', Ls, X', e', hd', fun target kt => ?_⟩
    show Steps p.tables e below (T0.setTop (mkF m 34 #[.val (.int q1), .val (.int n1)] [])) _
    refine XS.iloadN X0.here hx rfl (hb hby d3_34) rfl ?_
    show Steps p.tables e below (T0.setTop (mkF m 35 #[.val (.int q1), .val (.int n1)] [(.int q1)])) _
    refine XS.sipush X0.here hx rfl (hb hby d3_35) ?_
    show Steps p.tables e below (T0.setTop (mkF m 38 #[.val (.int q1), .val (.int n1)] [(.int (256 : Int32)), (.int q1)])) _
    refine XS.icmpYes X0.here hx rfl (pc0 := 38) (pc' := 49) rfl (hb hby d3_38) rfl (flt hc38_1).2.2.2 (by decide) (by decide) ?_
    exact st' target kt
def own_ntz_f0 (q1 : Int32) : Int32 := (if (0 : Int32) < ((q1 ^^^ (-1 : Int32)) &&& (q1 - (1 : Int32))) then (if (65536 : Int32) < ((q1 ^^^ (-1 : Int32)) &&& (q1 - (1 : Int32))) then (own_ntz_f34  ((((q1 ^^^ (-1 : Int32)) &&& (q1 - (1 : Int32))).toUInt32 >>> ((16 : Int32) &&& 31).toUInt32).toInt32) ((1 : Int32) + (16 : Int32))) else (own_ntz_f34  ((q1 ^^^ (-1 : Int32)) &&& (q1 - (1 : Int32))) (1 : Int32))) else (((q1 ^^^ (-1 : Int32)) &&& (q1 - (1 : Int32))) &&& (32 : Int32)))
set_option maxRecDepth 65536 in
set_option maxHeartbeats 40000000 in
theorem own_ntz_b0 {p : Program} {l : Launch} {e : Env} {R : Room} {s : State} {m : MethodId} {args : Array Value} {below : List Frame} {meth : Method} {c : Code} {T0 : State} {locs : List Loc} {cells slots : Nat} {Z : State} {a0 : Array Value} {h0 : Heap} (q1 : Int32)
    (X0 : Stand p l e R s m args below meth c T0 locs cells slots) (hx : p.tables.exec = Jvm.exec) (hZ : Z.Warmed39 s.vm) (hw : ∀ d ∈ tables_1, d.before a0 Z = true) (hby : c.code = jdk_33_method_48_code) (hml : c.maxLocals = 2) (hown : s.vm.findClass "java/lang/Integer" = some m.cls) (e0 : T0.heap = h0)  (F : Int32) (hF : F = own_ntz_f0  q1) :
    ∃ (T' : State) (pc' : Nat) (Ls : Array Slot), Stand p l e R s m args below meth c T' locs cells slots ∧ T'.heap = h0 ∧ decode c.code pc' = .ok (.ireturn, 1) ∧
      ∀ target, Steps p.tables e below (T'.setTop (mkF m pc' Ls [.int F])) target → Steps p.tables e below (T0.setTop (mkF m 0 #[.val (.int q1), .unset] [])) target := by
  by_cases hc9_1 : (0 : Int32) < ((q1 ^^^ (-1 : Int32)) &&& (q1 - (1 : Int32)))
  · by_cases hc23_2 : (65536 : Int32) < ((q1 ^^^ (-1 : Int32)) &&& (q1 - (1 : Int32)))
    · obtain ⟨T', pc', Ls, X', e', hd', st'⟩ := own_ntz_b34  ((((q1 ^^^ (-1 : Int32)) &&& (q1 - (1 : Int32))).toUInt32 >>> ((16 : Int32) &&& 31).toUInt32).toInt32) ((1 : Int32) + (16 : Int32)) X0 hx hZ hw hby hml hown e0  F (hF.trans (by rw [own_ntz_f0, if_pos hc9_1, if_pos hc23_2]))
      refine ⟨T', pc', Ls, X', e', hd', fun target kt => ?_⟩
      show Steps p.tables e below (T0.setTop (mkF m 0 #[.val (.int q1), .unset] [])) _
      refine XS.iloadN X0.here hx rfl (hb hby d3_0) rfl ?_
      show Steps p.tables e below (T0.setTop (mkF m 1 #[.val (.int q1), .unset] [(.int q1)])) _
      refine XS.iconst X0.here hx rfl (hb hby d3_1) ?_
      show Steps p.tables e below (T0.setTop (mkF m 2 #[.val (.int q1), .unset] [(.int (-1 : Int32)), (.int q1)])) _
      refine XS.ixor X0.here hx rfl (hb hby d3_2) rfl ?_
      show Steps p.tables e below (T0.setTop (mkF m 3 #[.val (.int q1), .unset] [(.int (q1 ^^^ (-1 : Int32)))])) _
      refine XS.iloadN X0.here hx rfl (hb hby d3_3) rfl ?_
      show Steps p.tables e below (T0.setTop (mkF m 4 #[.val (.int q1), .unset] [(.int q1), (.int (q1 ^^^ (-1 : Int32)))])) _
      refine XS.iconst X0.here hx rfl (hb hby d3_4) ?_
      show Steps p.tables e below (T0.setTop (mkF m 5 #[.val (.int q1), .unset] [(.int (1 : Int32)), (.int q1), (.int (q1 ^^^ (-1 : Int32)))])) _
      refine XS.isub X0.here hx rfl (hb hby d3_5) rfl ?_
      show Steps p.tables e below (T0.setTop (mkF m 6 #[.val (.int q1), .unset] [(.int (q1 - (1 : Int32))), (.int (q1 ^^^ (-1 : Int32)))])) _
      refine XS.iand X0.here hx rfl (hb hby d3_6) rfl ?_
      show Steps p.tables e below (T0.setTop (mkF m 7 #[.val (.int q1), .unset] [(.int ((q1 ^^^ (-1 : Int32)) &&& (q1 - (1 : Int32))))])) _
      refine XS.istoreN X0.here hx rfl (hb hby d3_7) rfl (l' := #[.val (.int ((q1 ^^^ (-1 : Int32)) &&& (q1 - (1 : Int32)))), .unset]) rfl ?_
      show Steps p.tables e below (T0.setTop (mkF m 8 #[.val (.int ((q1 ^^^ (-1 : Int32)) &&& (q1 - (1 : Int32)))), .unset] [])) _
      refine XS.iloadN X0.here hx rfl (hb hby d3_8) rfl ?_
      show Steps p.tables e below (T0.setTop (mkF m 9 #[.val (.int ((q1 ^^^ (-1 : Int32)) &&& (q1 - (1 : Int32)))), .unset] [(.int ((q1 ^^^ (-1 : Int32)) &&& (q1 - (1 : Int32))))])) _
      refine XS.ifYes X0.here hx rfl (pc0 := 9) (pc' := 17) rfl (hb hby d3_9) rfl ((if0 _ _).trans (tlt hc9_1).2.2.1) (by decide) (by decide) ?_
      show Steps p.tables e below (T0.setTop (mkF m 17 #[.val (.int ((q1 ^^^ (-1 : Int32)) &&& (q1 - (1 : Int32)))), .unset] [])) _
      refine XS.iconst X0.here hx rfl (hb hby d3_17) ?_
      show Steps p.tables e below (T0.setTop (mkF m 18 #[.val (.int ((q1 ^^^ (-1 : Int32)) &&& (q1 - (1 : Int32)))), .unset] [(.int (1 : Int32))])) _
      refine XS.istoreN X0.here hx rfl (hb hby d3_18) rfl (l' := #[.val (.int ((q1 ^^^ (-1 : Int32)) &&& (q1 - (1 : Int32)))), .val (.int (1 : Int32))]) rfl ?_
      show Steps p.tables e below (T0.setTop (mkF m 19 #[.val (.int ((q1 ^^^ (-1 : Int32)) &&& (q1 - (1 : Int32)))), .val (.int (1 : Int32))] [])) _
      refine XS.iloadN X0.here hx rfl (hb hby d3_19) rfl ?_
      show Steps p.tables e below (T0.setTop (mkF m 20 #[.val (.int ((q1 ^^^ (-1 : Int32)) &&& (q1 - (1 : Int32)))), .val (.int (1 : Int32))] [(.int ((q1 ^^^ (-1 : Int32)) &&& (q1 - (1 : Int32))))])) _
      refine X0.ldcwInt hx hown (mvT hZ (hw _ (List.mem_of_getElem? (i := 16) rfl))) (g := (mkF m 20 #[.val (.int ((q1 ^^^ (-1 : Int32)) &&& (q1 - (1 : Int32)))), .val (.int (1 : Int32))] [(.int ((q1 ^^^ (-1 : Int32)) &&& (q1 - (1 : Int32))))])) rfl (hb hby d3_20) _ ?_
      show Steps p.tables e below (T0.setTop (mkF m 23 #[.val (.int ((q1 ^^^ (-1 : Int32)) &&& (q1 - (1 : Int32)))), .val (.int (1 : Int32))] [(.int (65536 : Int32)), (.int ((q1 ^^^ (-1 : Int32)) &&& (q1 - (1 : Int32))))])) _
      refine XS.icmpNo X0.here hx rfl (hb hby d3_23) rfl (tlt hc23_2).2.2.2 ?_
      show Steps p.tables e below (T0.setTop (mkF m 26 #[.val (.int ((q1 ^^^ (-1 : Int32)) &&& (q1 - (1 : Int32)))), .val (.int (1 : Int32))] [])) _
      refine XS.iinc X0.here hx rfl (hb hby d3_26) rfl (l' := #[.val (.int ((q1 ^^^ (-1 : Int32)) &&& (q1 - (1 : Int32)))), .val (.int ((1 : Int32) + (16 : Int32)))]) rfl ?_
      show Steps p.tables e below (T0.setTop (mkF m 29 #[.val (.int ((q1 ^^^ (-1 : Int32)) &&& (q1 - (1 : Int32)))), .val (.int ((1 : Int32) + (16 : Int32)))] [])) _
      refine XS.iloadN X0.here hx rfl (hb hby d3_29) rfl ?_
      show Steps p.tables e below (T0.setTop (mkF m 30 #[.val (.int ((q1 ^^^ (-1 : Int32)) &&& (q1 - (1 : Int32)))), .val (.int ((1 : Int32) + (16 : Int32)))] [(.int ((q1 ^^^ (-1 : Int32)) &&& (q1 - (1 : Int32))))])) _
      refine XS.bipush X0.here hx rfl (hb hby d3_30) ?_
      show Steps p.tables e below (T0.setTop (mkF m 32 #[.val (.int ((q1 ^^^ (-1 : Int32)) &&& (q1 - (1 : Int32)))), .val (.int ((1 : Int32) + (16 : Int32)))] [(.int (16 : Int32)), (.int ((q1 ^^^ (-1 : Int32)) &&& (q1 - (1 : Int32))))])) _
      refine XS.iushr X0.here hx rfl (hb hby d3_32) rfl ?_
      show Steps p.tables e below (T0.setTop (mkF m 33 #[.val (.int ((q1 ^^^ (-1 : Int32)) &&& (q1 - (1 : Int32)))), .val (.int ((1 : Int32) + (16 : Int32)))] [(.int ((((q1 ^^^ (-1 : Int32)) &&& (q1 - (1 : Int32))).toUInt32 >>> ((16 : Int32) &&& 31).toUInt32).toInt32))])) _
      refine XS.istoreN X0.here hx rfl (hb hby d3_33) rfl (l' := #[.val (.int ((((q1 ^^^ (-1 : Int32)) &&& (q1 - (1 : Int32))).toUInt32 >>> ((16 : Int32) &&& 31).toUInt32).toInt32)), .val (.int ((1 : Int32) + (16 : Int32)))]) rfl ?_
      exact st' target kt
    · obtain ⟨T', pc', Ls, X', e', hd', st'⟩ := own_ntz_b34  ((q1 ^^^ (-1 : Int32)) &&& (q1 - (1 : Int32))) (1 : Int32) X0 hx hZ hw hby hml hown e0  F (hF.trans (by rw [own_ntz_f0, if_pos hc9_1, if_neg hc23_2]))
      refine ⟨T', pc', Ls, X', e', hd', fun target kt => ?_⟩
      show Steps p.tables e below (T0.setTop (mkF m 0 #[.val (.int q1), .unset] [])) _
      refine XS.iloadN X0.here hx rfl (hb hby d3_0) rfl ?_
      show Steps p.tables e below (T0.setTop (mkF m 1 #[.val (.int q1), .unset] [(.int q1)])) _
      refine XS.iconst X0.here hx rfl (hb hby d3_1) ?_
      show Steps p.tables e below (T0.setTop (mkF m 2 #[.val (.int q1), .unset] [(.int (-1 : Int32)), (.int q1)])) _
      refine XS.ixor X0.here hx rfl (hb hby d3_2) rfl ?_
      show Steps p.tables e below (T0.setTop (mkF m 3 #[.val (.int q1), .unset] [(.int (q1 ^^^ (-1 : Int32)))])) _
      refine XS.iloadN X0.here hx rfl (hb hby d3_3) rfl ?_
      show Steps p.tables e below (T0.setTop (mkF m 4 #[.val (.int q1), .unset] [(.int q1), (.int (q1 ^^^ (-1 : Int32)))])) _
      refine XS.iconst X0.here hx rfl (hb hby d3_4) ?_
      show Steps p.tables e below (T0.setTop (mkF m 5 #[.val (.int q1), .unset] [(.int (1 : Int32)), (.int q1), (.int (q1 ^^^ (-1 : Int32)))])) _
      refine XS.isub X0.here hx rfl (hb hby d3_5) rfl ?_
      show Steps p.tables e below (T0.setTop (mkF m 6 #[.val (.int q1), .unset] [(.int (q1 - (1 : Int32))), (.int (q1 ^^^ (-1 : Int32)))])) _
      refine XS.iand X0.here hx rfl (hb hby d3_6) rfl ?_
      show Steps p.tables e below (T0.setTop (mkF m 7 #[.val (.int q1), .unset] [(.int ((q1 ^^^ (-1 : Int32)) &&& (q1 - (1 : Int32))))])) _
      refine XS.istoreN X0.here hx rfl (hb hby d3_7) rfl (l' := #[.val (.int ((q1 ^^^ (-1 : Int32)) &&& (q1 - (1 : Int32)))), .unset]) rfl ?_
      show Steps p.tables e below (T0.setTop (mkF m 8 #[.val (.int ((q1 ^^^ (-1 : Int32)) &&& (q1 - (1 : Int32)))), .unset] [])) _
      refine XS.iloadN X0.here hx rfl (hb hby d3_8) rfl ?_
      show Steps p.tables e below (T0.setTop (mkF m 9 #[.val (.int ((q1 ^^^ (-1 : Int32)) &&& (q1 - (1 : Int32)))), .unset] [(.int ((q1 ^^^ (-1 : Int32)) &&& (q1 - (1 : Int32))))])) _
      refine XS.ifYes X0.here hx rfl (pc0 := 9) (pc' := 17) rfl (hb hby d3_9) rfl ((if0 _ _).trans (tlt hc9_1).2.2.1) (by decide) (by decide) ?_
      show Steps p.tables e below (T0.setTop (mkF m 17 #[.val (.int ((q1 ^^^ (-1 : Int32)) &&& (q1 - (1 : Int32)))), .unset] [])) _
      refine XS.iconst X0.here hx rfl (hb hby d3_17) ?_
      show Steps p.tables e below (T0.setTop (mkF m 18 #[.val (.int ((q1 ^^^ (-1 : Int32)) &&& (q1 - (1 : Int32)))), .unset] [(.int (1 : Int32))])) _
      refine XS.istoreN X0.here hx rfl (hb hby d3_18) rfl (l' := #[.val (.int ((q1 ^^^ (-1 : Int32)) &&& (q1 - (1 : Int32)))), .val (.int (1 : Int32))]) rfl ?_
      show Steps p.tables e below (T0.setTop (mkF m 19 #[.val (.int ((q1 ^^^ (-1 : Int32)) &&& (q1 - (1 : Int32)))), .val (.int (1 : Int32))] [])) _
      refine XS.iloadN X0.here hx rfl (hb hby d3_19) rfl ?_
      show Steps p.tables e below (T0.setTop (mkF m 20 #[.val (.int ((q1 ^^^ (-1 : Int32)) &&& (q1 - (1 : Int32)))), .val (.int (1 : Int32))] [(.int ((q1 ^^^ (-1 : Int32)) &&& (q1 - (1 : Int32))))])) _
      refine X0.ldcwInt hx hown (mvT hZ (hw _ (List.mem_of_getElem? (i := 16) rfl))) (g := (mkF m 20 #[.val (.int ((q1 ^^^ (-1 : Int32)) &&& (q1 - (1 : Int32)))), .val (.int (1 : Int32))] [(.int ((q1 ^^^ (-1 : Int32)) &&& (q1 - (1 : Int32))))])) rfl (hb hby d3_20) _ ?_
      show Steps p.tables e below (T0.setTop (mkF m 23 #[.val (.int ((q1 ^^^ (-1 : Int32)) &&& (q1 - (1 : Int32)))), .val (.int (1 : Int32))] [(.int (65536 : Int32)), (.int ((q1 ^^^ (-1 : Int32)) &&& (q1 - (1 : Int32))))])) _
      refine XS.icmpYes X0.here hx rfl (pc0 := 23) (pc' := 34) rfl (hb hby d3_23) rfl (flt hc23_2).2.2.2 (by decide) (by decide) ?_
      exact st' target kt
  · have hv : F = (((q1 ^^^ (-1 : Int32)) &&& (q1 - (1 : Int32))) &&& (32 : Int32)) := (hF.trans (by rw [own_ntz_f0, if_neg hc9_1]))
    refine ⟨T0, 16, #[.val (.int ((q1 ^^^ (-1 : Int32)) &&& (q1 - (1 : Int32)))), .unset], X0, e0, (hb hby d3_16), fun target kt => ?_⟩
    rw [hv] at kt
    show Steps p.tables e below (T0.setTop (mkF m 0 #[.val (.int q1), .unset] [])) _
    refine XS.iloadN X0.here hx rfl (hb hby d3_0) rfl ?_
    show Steps p.tables e below (T0.setTop (mkF m 1 #[.val (.int q1), .unset] [(.int q1)])) _
    refine XS.iconst X0.here hx rfl (hb hby d3_1) ?_
    show Steps p.tables e below (T0.setTop (mkF m 2 #[.val (.int q1), .unset] [(.int (-1 : Int32)), (.int q1)])) _
    refine XS.ixor X0.here hx rfl (hb hby d3_2) rfl ?_
    show Steps p.tables e below (T0.setTop (mkF m 3 #[.val (.int q1), .unset] [(.int (q1 ^^^ (-1 : Int32)))])) _
    refine XS.iloadN X0.here hx rfl (hb hby d3_3) rfl ?_
    show Steps p.tables e below (T0.setTop (mkF m 4 #[.val (.int q1), .unset] [(.int q1), (.int (q1 ^^^ (-1 : Int32)))])) _
    refine XS.iconst X0.here hx rfl (hb hby d3_4) ?_
    show Steps p.tables e below (T0.setTop (mkF m 5 #[.val (.int q1), .unset] [(.int (1 : Int32)), (.int q1), (.int (q1 ^^^ (-1 : Int32)))])) _
    refine XS.isub X0.here hx rfl (hb hby d3_5) rfl ?_
    show Steps p.tables e below (T0.setTop (mkF m 6 #[.val (.int q1), .unset] [(.int (q1 - (1 : Int32))), (.int (q1 ^^^ (-1 : Int32)))])) _
    refine XS.iand X0.here hx rfl (hb hby d3_6) rfl ?_
    show Steps p.tables e below (T0.setTop (mkF m 7 #[.val (.int q1), .unset] [(.int ((q1 ^^^ (-1 : Int32)) &&& (q1 - (1 : Int32))))])) _
    refine XS.istoreN X0.here hx rfl (hb hby d3_7) rfl (l' := #[.val (.int ((q1 ^^^ (-1 : Int32)) &&& (q1 - (1 : Int32)))), .unset]) rfl ?_
    show Steps p.tables e below (T0.setTop (mkF m 8 #[.val (.int ((q1 ^^^ (-1 : Int32)) &&& (q1 - (1 : Int32)))), .unset] [])) _
    refine XS.iloadN X0.here hx rfl (hb hby d3_8) rfl ?_
    show Steps p.tables e below (T0.setTop (mkF m 9 #[.val (.int ((q1 ^^^ (-1 : Int32)) &&& (q1 - (1 : Int32)))), .unset] [(.int ((q1 ^^^ (-1 : Int32)) &&& (q1 - (1 : Int32))))])) _
    refine XS.ifNo X0.here hx rfl (hb hby d3_9) rfl ((if0 _ _).trans (flt hc9_1).2.2.1) ?_
    show Steps p.tables e below (T0.setTop (mkF m 12 #[.val (.int ((q1 ^^^ (-1 : Int32)) &&& (q1 - (1 : Int32)))), .unset] [])) _
    refine XS.iloadN X0.here hx rfl (hb hby d3_12) rfl ?_
    show Steps p.tables e below (T0.setTop (mkF m 13 #[.val (.int ((q1 ^^^ (-1 : Int32)) &&& (q1 - (1 : Int32)))), .unset] [(.int ((q1 ^^^ (-1 : Int32)) &&& (q1 - (1 : Int32))))])) _
    refine XS.bipush X0.here hx rfl (hb hby d3_13) ?_
    show Steps p.tables e below (T0.setTop (mkF m 15 #[.val (.int ((q1 ^^^ (-1 : Int32)) &&& (q1 - (1 : Int32)))), .unset] [(.int (32 : Int32)), (.int ((q1 ^^^ (-1 : Int32)) &&& (q1 - (1 : Int32))))])) _
    refine XS.iand X0.here hx rfl (hb hby d3_15) rfl ?_
    show Steps p.tables e below (T0.setTop (mkF m 16 #[.val (.int ((q1 ^^^ (-1 : Int32)) &&& (q1 - (1 : Int32)))), .unset] [(.int (((q1 ^^^ (-1 : Int32)) &&& (q1 - (1 : Int32))) &&& (32 : Int32)))])) _
    exact kt
theorem pn_3 : plainName "java/lang/Integer" = true := by first | (simp [plainName, overriddenIn]; done) | decide +kernel
theorem ef_3 (m : MethodId) (q1 : Int32) : entryFrame m #[(.int q1)] 2 = mkF m 0 #[.val (.int q1), .unset] [] := by first | (simp [entryFrame, mkF, argsToLocals, Value.category]; done) | rfl
def Q3 (q1 : Int32)  (h0 : Heap) (n0 : Nat) (v : Option Value) (h : Heap) (L : List Loc) : Prop := v = some (.int (own_ntz_f0 q1)) ∧ Fr n0 L ∧ h = h0
set_option maxRecDepth 65536 in
set_option maxHeartbeats 40000000 in
theorem rm3 (l : Launch) (Z : State) (a0 : Array Value) (hw : ∀ d ∈ tables_1, d.before a0 Z = true) (ws : List Jvm.Cond) (q1 : Int32)  (h0 : Heap) (n0 : Nat) (Z0 : n0 ≤ h0.size)  :
    MetFree l (⟨"java/lang/Integer", "numberOfTrailingZeros", "(I)I"⟩ : MethodName) (head1 (Jvm.Cond.code (⟨"java/lang/Integer", "numberOfTrailingZeros", "(I)I"⟩ : MethodName) jdk_33_method_48_code 2 (some .int) :: ws) ({ frames := 0, cells := 0, slots := 0, locals := 0 } : Room)) (fun a U => a = #[(.int q1)] ∧ Z.Warmed39 U.vm ∧ U.heap = h0) (fun _ _ _ _ _ => True) (fun _ U o U' => ∃ v L, o = .returned v ∧ Q3 q1  h0 n0 v U'.heap L ∧ FrameEnd U o U' L (({ frames := 0, cells := 0, slots := 0, locals := 0 } : Room)).cells (({ frames := 0, cells := 0, slots := 0, locals := 0 } : Room)).slots) := by
  refine MetFree.of_bodySF (plainFor_of_name pn_3) hisR ?_
  intro p e s m args below meth c s₁ Bd hml0 hP hK
  obtain ⟨rfl, hZ, hh⟩ := hP
  have hx := Bd.exec
  have hby := Bd.bytes
  have hml : c.maxLocals = 2 := hml0
  have hown : s.vm.findClass "java/lang/Integer" = some m.cls := findClass_of_methodNamed Bd.named
  have X0 : Stand p l e ({ frames := 0, cells := 0, slots := 0, locals := 0 } : Room) s m #[(.int q1)] below meth c s₁ [] 0 0 := Stand.of_body Bd
  have e0 : s₁.heap = h0 := by rw [← hh, Bd.state]; rfl
  obtain ⟨T', pc', Ls, X', e', hd', st'⟩ := own_ntz_b0 q1 X0 hx hZ hw hby hml hown e0  (own_ntz_f0 q1) rfl
  obtain ⟨fs, hr, hrun, hended, hW, hsame⟩ := X'.leave (v := some (.int (own_ntz_f0 q1))) (fun h => by rw [Bd.returns] at h; cases h)
  refine ⟨_, _, castTop (ef_3 m q1) (st' _ ?_), hrun, hended, _, _, rfl, ?_, ⟨_, rfl⟩, hW, hsame.mono (by decide) (by decide)⟩
  · exact retI X' hx Bd.returns hd' hr
  · exact ⟨rfl, Fr.nil n0, e'⟩
theorem own_ntz16 : own_ntz_f0 16 = 4 := by decide +kernel
theorem ef_9 (m : MethodId) (x0 : Int32) (x1 : Addr) : entryFrame m #[(.int x0), (.ref x1)] 2 = mkF m 0 #[.val (.int x0), .val (.ref x1)] [] := by first | (simp [entryFrame, mkF, argsToLocals, Value.category]; done) | rfl
def Q9 (cnt : Nat) (t : Addr) (vs : List Int64) (h0 : Heap) (n0 : Nat) (vv : Option Value) (h : Heap) (L : List Loc) : Prop := vv = some (.int 0) ∧ Fr n0 L ∧ h = h0
set_option maxRecDepth 65536 in
set_option maxHeartbeats 40000000 in
theorem rm9 (l : Launch) (Z : State) (a0 : Array Value) (hw : ∀ d ∈ tables_1, d.before a0 Z = true) (ws' : List Jvm.Cond) (cnt : Nat) (t : Addr) (vs : List Int64) (h0 : Heap) (n0 : Nat) (Z0 : n0 ≤ h0.size) (A : own_J Z h0 t vs) (hl : vs.length = 16) (hc : cnt ≤ 12) :
    MetFree l (⟨"com/example/intact_keys/intactkeys/check/KeySet", "isOverfull", "(I[J)Z"⟩ : MethodName) (head1 (Jvm.Cond.code (⟨"com/example/intact_keys/intactkeys/check/KeySet", "isOverfull", "(I[J)Z"⟩ : MethodName) prog_48_method_16_code 2 (some .boolean) :: ws') ({ frames := 0, cells := 0, slots := 0, locals := 0 } : Room)) (fun aa U => aa = #[(.int cnt.toInt32), (.ref t)] ∧ Z.Warmed39 U.vm ∧ U.heap = h0) (fun _ _ _ _ _ => True) (fun _ U o U' => ∃ vv L, o = .returned vv ∧ Q9 cnt t vs h0 n0 vv U'.heap L ∧ FrameEnd U o U' L (({ frames := 0, cells := 0, slots := 0, locals := 0 } : Room)).cells (({ frames := 0, cells := 0, slots := 0, locals := 0 } : Room)).slots) := by
  refine MetFree.of_bodySF (plainFor_of_name pn_K) hisR ?_
  intro p e s m args below meth c s₁ Bd hml0 hP hK
  obtain ⟨rfl, hZ, hh⟩ := hP
  have hx := Bd.exec
  have hby := Bd.bytes
  have hml : c.maxLocals = 2 := hml0
  have hown : s.vm.findClass "com/example/intact_keys/intactkeys/check/KeySet" = some m.cls := findClass_of_methodNamed Bd.named
  have hnm := (name_of_methodNamed Bd.named Bd.method).1
  have X0 : Stand p l e ({ frames := 0, cells := 0, slots := 0, locals := 0 } : Room) s m #[(.int cnt.toInt32), (.ref t)] below meth c s₁ [] 0 0 := Stand.of_body Bd
  have e0 : s₁.heap = h0 := by rw [← hh, Bd.state]; rfl
  have N0 := Fr.nil n0
  obtain ⟨cl, Ar, Sz, Hs⟩ := A
  have Sz16 : cl.slots.size.toInt32 = 16 := by rw [Sz, hl]; rfl
  have hov : ¬ ((16 : Int32) / (4 : Int32) * (3 : Int32)) < cnt.toInt32 := by
    rw [show ((16 : Int32) / (4 : Int32) * (3 : Int32)) = (12 : Nat).toInt32 from by decide, own_lt (by decide) (by omega)]; omega
  obtain ⟨fs, hr, hrun, hended, hW, hsame⟩ := X0.leave (v := some (.int (0 : Int32))) (fun h => by rw [Bd.returns] at h; cases h)
  refine ⟨_, _, castTop (ef_9 m cnt.toInt32 t) ?_, hrun, hended, _, _, rfl, ?_, ⟨_, rfl⟩, hW, hsame.mono (by decide) (by decide)⟩
  · show Steps p.tables e below (s₁.setTop (mkF m 0 #[.val (.int cnt.toInt32), .val (.ref t)] [])) _
    refine XS.iloadN X0.here hx rfl (hb hby d9_0) rfl ?_
    show Steps p.tables e below (s₁.setTop (mkF m 1 #[.val (.int cnt.toInt32), .val (.ref t)] [(.int cnt.toInt32)])) _
    refine XS.aloadN X0.here hx rfl (hb hby d9_1) rfl rfl ?_
    show Steps p.tables e below (s₁.setTop (mkF m 2 #[.val (.int cnt.toInt32), .val (.ref t)] [(.ref t), (.int cnt.toInt32)])) _
    refine X0.arraylength hx (by rw [e0]; exact Ar.1) (State.isArrayOf_alike hZ.alike Ar.2.1) (g := (mkF m 2 #[.val (.int cnt.toInt32), .val (.ref t)] [(.ref t), (.int cnt.toInt32)])) rfl rfl (hb hby d9_2) _ ?_
    rw [Sz16]
    show Steps p.tables e below (s₁.setTop (mkF m 3 #[.val (.int cnt.toInt32), .val (.ref t)] [(.int (16 : Int32)), (.int cnt.toInt32)])) _
    refine XS.iconst X0.here hx rfl (hb hby d9_3) ?_
    show Steps p.tables e below (s₁.setTop (mkF m 4 #[.val (.int cnt.toInt32), .val (.ref t)] [(.int (4 : Int32)), (.int (16 : Int32)), (.int cnt.toInt32)])) _
    refine XS.idiv X0.here hx rfl (hb hby d9_4) rfl (by decide) ?_
    show Steps p.tables e below (s₁.setTop (mkF m 5 #[.val (.int cnt.toInt32), .val (.ref t)] [(.int ((16 : Int32) / (4 : Int32))), (.int cnt.toInt32)])) _
    refine XS.iconst X0.here hx rfl (hb hby d9_5) ?_
    show Steps p.tables e below (s₁.setTop (mkF m 6 #[.val (.int cnt.toInt32), .val (.ref t)] [(.int (3 : Int32)), (.int ((16 : Int32) / (4 : Int32))), (.int cnt.toInt32)])) _
    refine XS.imul X0.here hx rfl (hb hby d9_6) rfl ?_
    show Steps p.tables e below (s₁.setTop (mkF m 7 #[.val (.int cnt.toInt32), .val (.ref t)] [(.int (((16 : Int32) / (4 : Int32)) * (3 : Int32))), (.int cnt.toInt32)])) _
    refine XS.icmpYes X0.here hx rfl (pc0 := 7) (pc' := 14) rfl (hb hby d9_7) rfl (flt hov).2.2.2 (by decide) (by decide) ?_
    show Steps p.tables e below (s₁.setTop (mkF m 14 #[.val (.int cnt.toInt32), .val (.ref t)] [])) _
    refine XS.iconst X0.here hx rfl (hb hby d9_14) ?_
    exact retN X0 hx (t := .boolean) Bd.returns (by simp) (hb hby d9_15) hr
  · exact ⟨rfl, N0, e0⟩
def own_hi (v : Int64) : Int32 := ((((v * (-7046029254386353131 : Int64)).toUInt64 >>> (((64 : Int32) - (4 : Int32)) &&& 0x3f).toInt64.toUInt64).toInt64).toInt32)
def own_hs (v : Int64) : Nat := (own_hi v).toNatClampNeg
theorem own_hi_r (v : Int64) : 0 ≤ (own_hi v).toInt ∧ (own_hi v).toInt < 16 := by
  have h1 := c_lushr (v * (-7046029254386353131 : Int64)) ((64 : Int32) - (4 : Int32)) 60 (by decide) (by decide)
  have h2 := c_l2i (((v * (-7046029254386353131 : Int64)).toUInt64 >>> (((64 : Int32) - (4 : Int32)) &&& 0x3f).toInt64.toUInt64).toInt64)
  have h3 := rng32 (own_hi v)
  unfold own_hi at h3 ⊢
  rw [h1] at h2
  have h4 := Int.emod_nonneg (v * (-7046029254386353131 : Int64)).toInt (show (18446744073709551616 : Int) ≠ 0 by decide)
  have h5 := Int.emod_lt_of_pos (v * (-7046029254386353131 : Int64)).toInt (show (0 : Int) < 18446744073709551616 by decide)
  generalize (v * (-7046029254386353131 : Int64)).toInt % 18446744073709551616 = z at *
  have h6 : ((2 ^ 60 : Nat) : Int) = 1152921504606846976 := by decide
  rw [h6] at h2
  omega
theorem own_hs_lt (v : Int64) : own_hs v < 16 := by
  have := own_hi_r v
  unfold own_hs; rw [Int32.toNatClampNeg]; omega
theorem own_hi_eq (v : Int64) : own_hi v = (own_hs v).toInt32 := by
  have h1 := own_hi_r v
  have h2 := own_hs_lt v
  rw [← Int32.toInt_inj, own_toInt (by omega)]
  unfold own_hs; rw [Int32.toNatClampNeg]; omega
theorem own_wrap {i : Nat} (h : i < 16) : (i.toInt32 + 1) &&& ((16 : Int32) - (1 : Int32)) = ((i + 1) % 16).toInt32 := by
  have h1 := c_mask (i.toInt32 + 1) ((16 : Int32) - (1 : Int32)) 4 (by decide) (by decide)
  rw [own_succ] at h1 ⊢
  rw [← Int32.toInt_inj, h1, own_toInt (by omega), own_toInt (by omega)]
  omega
set_option maxRecDepth 65536 in
set_option maxHeartbeats 40000000 in
theorem own_probe {p : Program} {l : Launch} {e : Env} {R : Room} {s : State} {m : MethodId} {args : Array Value} {below : List Frame} {meth : Method} {c : Code} {locs : List Loc} {cells slots : Nat} {Z : State} {a0 : Array Value} {h0 : Heap} (a t : Addr) (v : Int64) (vs : List Int64) (D : Nat)
    (hx : p.tables.exec = Jvm.exec) (hZ : Z.Warmed39 s.vm) (hw : ∀ d ∈ tables_1, d.before a0 Z = true) (hby : c.code = prog_48_method_14_code) (hown : s.vm.findClass "com/example/intact_keys/intactkeys/check/KeySet" = some m.cls)
    (F1 : Fld Z h0 a "com/example/intact_keys/intactkeys/check/KeySet" "slots" "[J" (.ref t)) (cl : Cell) (Ar : Arr Z h0 t cl .long) (Sz : cl.slots.size = vs.length) (Hs : ∀ i, i < vs.length → cl.slots[i]? = some (.long (vs.getD i 0))) (h16 : vs.length = 16) (ff : own_first own_hs vs v D) :
    ∀ (k d : Nat) (T0 : State), Stand p l e R s m args below meth c T0 locs cells slots → T0.heap = h0 → d + k = D →
      ∃ T', Stand p l e R s m args below meth c T' locs cells slots ∧ T'.heap = h0 ∧ ∀ target, Steps p.tables e below (T'.setTop (mkF m 59 #[.val (.ref a), .val (.long v), .second, .val (.int ((16 : Int32) - (1 : Int32))), .val (.int ((own_hs v + D) % 16).toInt32)] [])) target → Steps p.tables e below (T0.setTop (mkF m 24 #[.val (.ref a), .val (.long v), .second, .val (.int ((16 : Int32) - (1 : Int32))), .val (.int ((own_hs v + d) % 16).toInt32)] [])) target := by
  have hl : vs.length < 2 ^ 31 := by omega
  intro k
  induction k with
  | zero =>
    intro d T0 X0 e0 hk
    have hi : ((own_hs v + d) % 16) < vs.length := by omega
    obtain rfl : d = D := by omega
    by_cases hz : vs.getD ((own_hs v + d) % 16) 0 = 0
    ·
      obtain ⟨T1, X1, e1, st1⟩ := getF X0 hx hZ hown (host := "") (Or.inl (hw _ (List.mem_of_getElem? (i := 10) rfl))) Via.refl e0 F1 (g := (mkF m 25 #[.val (.ref a), .val (.long v), .second, .val (.int ((16 : Int32) - (1 : Int32))), .val (.int ((own_hs v + d) % 16).toInt32)] [(.ref a)])) rfl rfl (hb hby d8_25)
      refine ⟨T1, X1, e1, fun target kt => ?_⟩
      show Steps p.tables e below (T0.setTop (mkF m 24 #[.val (.ref a), .val (.long v), .second, .val (.int ((16 : Int32) - (1 : Int32))), .val (.int ((own_hs v + d) % 16).toInt32)] [])) _
      refine XS.aloadN X0.here hx rfl (hb hby d8_24) rfl rfl ?_
      show Steps p.tables e below (T0.setTop (mkF m 25 #[.val (.ref a), .val (.long v), .second, .val (.int ((16 : Int32) - (1 : Int32))), .val (.int ((own_hs v + d) % 16).toInt32)] [(.ref a)])) _
      refine st1 _ ?_
      show Steps p.tables e below (T1.setTop (mkF m 28 #[.val (.ref a), .val (.long v), .second, .val (.int ((16 : Int32) - (1 : Int32))), .val (.int ((own_hs v + d) % 16).toInt32)] [(.ref t)])) _
      refine XS.iload X1.here hx rfl (hb hby d8_28) rfl ?_
      show Steps p.tables e below (T1.setTop (mkF m 30 #[.val (.ref a), .val (.long v), .second, .val (.int ((16 : Int32) - (1 : Int32))), .val (.int ((own_hs v + d) % 16).toInt32)] [(.int ((own_hs v + d) % 16).toInt32), (.ref t)])) _
      refine X1.laload hx (j := ((own_hs v + d) % 16).toInt32) (v := (.long (vs.getD ((own_hs v + d) % 16) 0))) (by rw [e1]; exact Ar.1) (State.isArrayOf_alike hZ.alike Ar.2.1) Ar.2.2 (own_ix Sz hi hl) (own_ld Hs hi hl) (g := (mkF m 30 #[.val (.ref a), .val (.long v), .second, .val (.int ((16 : Int32) - (1 : Int32))), .val (.int ((own_hs v + d) % 16).toInt32)] [(.int ((own_hs v + d) % 16).toInt32), (.ref t)])) rfl rfl (hb hby d8_30) _ ?_
      show Steps p.tables e below (T1.setTop (mkF m 31 #[.val (.ref a), .val (.long v), .second, .val (.int ((16 : Int32) - (1 : Int32))), .val (.int ((own_hs v + d) % 16).toInt32)] [(.long (vs.getD ((own_hs v + d) % 16) 0))])) _
      refine XS.lconst X1.here hx rfl (hb hby d8_31) ?_
      show Steps p.tables e below (T1.setTop (mkF m 32 #[.val (.ref a), .val (.long v), .second, .val (.int ((16 : Int32) - (1 : Int32))), .val (.int ((own_hs v + d) % 16).toInt32)] [(.long (0 : Int64)), (.long (vs.getD ((own_hs v + d) % 16) 0))])) _
      refine XS.lcmp X1.here hx rfl (hb hby d8_32) rfl ?_
      show Steps p.tables e below (T1.setTop (mkF m 33 #[.val (.ref a), .val (.long v), .second, .val (.int ((16 : Int32) - (1 : Int32))), .val (.int ((own_hs v + d) % 16).toInt32)] [(.int (lcmpW (vs.getD ((own_hs v + d) % 16) 0) (0 : Int64)))])) _
      refine XS.ifYes X1.here hx rfl (pc0 := 33) (pc' := 59) rfl (hb hby d8_33) rfl ((if0 _ _).trans (teq ((lw_eq _ _).mpr hz)).1) (by decide) (by decide) ?_
      exact kt
    · have hv : vs.getD ((own_hs v + d) % 16) 0 = v := ff.1.elim (fun q => absurd q hz) id
      obtain ⟨T1, X1, e1, st1⟩ := getF X0 hx hZ hown (host := "") (Or.inl (hw _ (List.mem_of_getElem? (i := 10) rfl))) Via.refl e0 F1 (g := (mkF m 25 #[.val (.ref a), .val (.long v), .second, .val (.int ((16 : Int32) - (1 : Int32))), .val (.int ((own_hs v + d) % 16).toInt32)] [(.ref a)])) rfl rfl (hb hby d8_25)
      obtain ⟨T2, X2, e2, st2⟩ := getF X1 hx hZ hown (host := "") (Or.inl (hw _ (List.mem_of_getElem? (i := 10) rfl))) Via.refl e1 F1 (g := (mkF m 37 #[.val (.ref a), .val (.long v), .second, .val (.int ((16 : Int32) - (1 : Int32))), .val (.int ((own_hs v + d) % 16).toInt32)] [(.ref a)])) rfl rfl (hb hby d8_37)
      refine ⟨T2, X2, e2, fun target kt => ?_⟩
      show Steps p.tables e below (T0.setTop (mkF m 24 #[.val (.ref a), .val (.long v), .second, .val (.int ((16 : Int32) - (1 : Int32))), .val (.int ((own_hs v + d) % 16).toInt32)] [])) _
      refine XS.aloadN X0.here hx rfl (hb hby d8_24) rfl rfl ?_
      show Steps p.tables e below (T0.setTop (mkF m 25 #[.val (.ref a), .val (.long v), .second, .val (.int ((16 : Int32) - (1 : Int32))), .val (.int ((own_hs v + d) % 16).toInt32)] [(.ref a)])) _
      refine st1 _ ?_
      show Steps p.tables e below (T1.setTop (mkF m 28 #[.val (.ref a), .val (.long v), .second, .val (.int ((16 : Int32) - (1 : Int32))), .val (.int ((own_hs v + d) % 16).toInt32)] [(.ref t)])) _
      refine XS.iload X1.here hx rfl (hb hby d8_28) rfl ?_
      show Steps p.tables e below (T1.setTop (mkF m 30 #[.val (.ref a), .val (.long v), .second, .val (.int ((16 : Int32) - (1 : Int32))), .val (.int ((own_hs v + d) % 16).toInt32)] [(.int ((own_hs v + d) % 16).toInt32), (.ref t)])) _
      refine X1.laload hx (j := ((own_hs v + d) % 16).toInt32) (v := (.long (vs.getD ((own_hs v + d) % 16) 0))) (by rw [e1]; exact Ar.1) (State.isArrayOf_alike hZ.alike Ar.2.1) Ar.2.2 (own_ix Sz hi hl) (own_ld Hs hi hl) (g := (mkF m 30 #[.val (.ref a), .val (.long v), .second, .val (.int ((16 : Int32) - (1 : Int32))), .val (.int ((own_hs v + d) % 16).toInt32)] [(.int ((own_hs v + d) % 16).toInt32), (.ref t)])) rfl rfl (hb hby d8_30) _ ?_
      show Steps p.tables e below (T1.setTop (mkF m 31 #[.val (.ref a), .val (.long v), .second, .val (.int ((16 : Int32) - (1 : Int32))), .val (.int ((own_hs v + d) % 16).toInt32)] [(.long (vs.getD ((own_hs v + d) % 16) 0))])) _
      refine XS.lconst X1.here hx rfl (hb hby d8_31) ?_
      show Steps p.tables e below (T1.setTop (mkF m 32 #[.val (.ref a), .val (.long v), .second, .val (.int ((16 : Int32) - (1 : Int32))), .val (.int ((own_hs v + d) % 16).toInt32)] [(.long (0 : Int64)), (.long (vs.getD ((own_hs v + d) % 16) 0))])) _
      refine XS.lcmp X1.here hx rfl (hb hby d8_32) rfl ?_
      show Steps p.tables e below (T1.setTop (mkF m 33 #[.val (.ref a), .val (.long v), .second, .val (.int ((16 : Int32) - (1 : Int32))), .val (.int ((own_hs v + d) % 16).toInt32)] [(.int (lcmpW (vs.getD ((own_hs v + d) % 16) 0) (0 : Int64)))])) _
      refine XS.ifNo X1.here hx rfl (hb hby d8_33) rfl ((if0 _ _).trans (feq (fun z => hz ((lw_eq _ _).mp z))).1) ?_
      show Steps p.tables e below (T1.setTop (mkF m 36 #[.val (.ref a), .val (.long v), .second, .val (.int ((16 : Int32) - (1 : Int32))), .val (.int ((own_hs v + d) % 16).toInt32)] [])) _
      refine XS.aloadN X1.here hx rfl (hb hby d8_36) rfl rfl ?_
      show Steps p.tables e below (T1.setTop (mkF m 37 #[.val (.ref a), .val (.long v), .second, .val (.int ((16 : Int32) - (1 : Int32))), .val (.int ((own_hs v + d) % 16).toInt32)] [(.ref a)])) _
      refine st2 _ ?_
      show Steps p.tables e below (T2.setTop (mkF m 40 #[.val (.ref a), .val (.long v), .second, .val (.int ((16 : Int32) - (1 : Int32))), .val (.int ((own_hs v + d) % 16).toInt32)] [(.ref t)])) _
      refine XS.iload X2.here hx rfl (hb hby d8_40) rfl ?_
      show Steps p.tables e below (T2.setTop (mkF m 42 #[.val (.ref a), .val (.long v), .second, .val (.int ((16 : Int32) - (1 : Int32))), .val (.int ((own_hs v + d) % 16).toInt32)] [(.int ((own_hs v + d) % 16).toInt32), (.ref t)])) _
      refine X2.laload hx (j := ((own_hs v + d) % 16).toInt32) (v := (.long (vs.getD ((own_hs v + d) % 16) 0))) (by rw [e2]; exact Ar.1) (State.isArrayOf_alike hZ.alike Ar.2.1) Ar.2.2 (own_ix Sz hi hl) (own_ld Hs hi hl) (g := (mkF m 42 #[.val (.ref a), .val (.long v), .second, .val (.int ((16 : Int32) - (1 : Int32))), .val (.int ((own_hs v + d) % 16).toInt32)] [(.int ((own_hs v + d) % 16).toInt32), (.ref t)])) rfl rfl (hb hby d8_42) _ ?_
      show Steps p.tables e below (T2.setTop (mkF m 43 #[.val (.ref a), .val (.long v), .second, .val (.int ((16 : Int32) - (1 : Int32))), .val (.int ((own_hs v + d) % 16).toInt32)] [(.long (vs.getD ((own_hs v + d) % 16) 0))])) _
      refine XS.lloadN X2.here hx rfl (hb hby d8_43) rfl ?_
      show Steps p.tables e below (T2.setTop (mkF m 44 #[.val (.ref a), .val (.long v), .second, .val (.int ((16 : Int32) - (1 : Int32))), .val (.int ((own_hs v + d) % 16).toInt32)] [(.long v), (.long (vs.getD ((own_hs v + d) % 16) 0))])) _
      refine XS.lcmp X2.here hx rfl (hb hby d8_44) rfl ?_
      show Steps p.tables e below (T2.setTop (mkF m 45 #[.val (.ref a), .val (.long v), .second, .val (.int ((16 : Int32) - (1 : Int32))), .val (.int ((own_hs v + d) % 16).toInt32)] [(.int (lcmpW (vs.getD ((own_hs v + d) % 16) 0) v))])) _
      refine XS.ifYes X2.here hx rfl (pc0 := 45) (pc' := 59) rfl (hb hby d8_45) rfl ((if0 _ _).trans (teq ((lw_eq _ _).mpr hv)).1) (by decide) (by decide) ?_
      exact kt
  | succ k ih =>
    intro d T0 X0 e0 hk
    have hi : ((own_hs v + d) % 16) < vs.length := by omega
    have nh := ff.2 d (by omega)
    have hz : ¬ vs.getD ((own_hs v + d) % 16) 0 = 0 := fun q => nh (Or.inl q)
    have hv : ¬ vs.getD ((own_hs v + d) % 16) 0 = v := fun q => nh (Or.inr q)
    obtain ⟨T1, X1, e1, st1⟩ := getF X0 hx hZ hown (host := "") (Or.inl (hw _ (List.mem_of_getElem? (i := 10) rfl))) Via.refl e0 F1 (g := (mkF m 25 #[.val (.ref a), .val (.long v), .second, .val (.int ((16 : Int32) - (1 : Int32))), .val (.int ((own_hs v + d) % 16).toInt32)] [(.ref a)])) rfl rfl (hb hby d8_25)
    obtain ⟨T2, X2, e2, st2⟩ := getF X1 hx hZ hown (host := "") (Or.inl (hw _ (List.mem_of_getElem? (i := 10) rfl))) Via.refl e1 F1 (g := (mkF m 37 #[.val (.ref a), .val (.long v), .second, .val (.int ((16 : Int32) - (1 : Int32))), .val (.int ((own_hs v + d) % 16).toInt32)] [(.ref a)])) rfl rfl (hb hby d8_37)
    obtain ⟨T', X', e', st'⟩ := ih (d + 1) T2 X2 e2 (by omega)
    refine ⟨T', X', e', fun target kt => ?_⟩
    show Steps p.tables e below (T0.setTop (mkF m 24 #[.val (.ref a), .val (.long v), .second, .val (.int ((16 : Int32) - (1 : Int32))), .val (.int ((own_hs v + d) % 16).toInt32)] [])) _
    refine XS.aloadN X0.here hx rfl (hb hby d8_24) rfl rfl ?_
    show Steps p.tables e below (T0.setTop (mkF m 25 #[.val (.ref a), .val (.long v), .second, .val (.int ((16 : Int32) - (1 : Int32))), .val (.int ((own_hs v + d) % 16).toInt32)] [(.ref a)])) _
    refine st1 _ ?_
    show Steps p.tables e below (T1.setTop (mkF m 28 #[.val (.ref a), .val (.long v), .second, .val (.int ((16 : Int32) - (1 : Int32))), .val (.int ((own_hs v + d) % 16).toInt32)] [(.ref t)])) _
    refine XS.iload X1.here hx rfl (hb hby d8_28) rfl ?_
    show Steps p.tables e below (T1.setTop (mkF m 30 #[.val (.ref a), .val (.long v), .second, .val (.int ((16 : Int32) - (1 : Int32))), .val (.int ((own_hs v + d) % 16).toInt32)] [(.int ((own_hs v + d) % 16).toInt32), (.ref t)])) _
    refine X1.laload hx (j := ((own_hs v + d) % 16).toInt32) (v := (.long (vs.getD ((own_hs v + d) % 16) 0))) (by rw [e1]; exact Ar.1) (State.isArrayOf_alike hZ.alike Ar.2.1) Ar.2.2 (own_ix Sz hi hl) (own_ld Hs hi hl) (g := (mkF m 30 #[.val (.ref a), .val (.long v), .second, .val (.int ((16 : Int32) - (1 : Int32))), .val (.int ((own_hs v + d) % 16).toInt32)] [(.int ((own_hs v + d) % 16).toInt32), (.ref t)])) rfl rfl (hb hby d8_30) _ ?_
    show Steps p.tables e below (T1.setTop (mkF m 31 #[.val (.ref a), .val (.long v), .second, .val (.int ((16 : Int32) - (1 : Int32))), .val (.int ((own_hs v + d) % 16).toInt32)] [(.long (vs.getD ((own_hs v + d) % 16) 0))])) _
    refine XS.lconst X1.here hx rfl (hb hby d8_31) ?_
    show Steps p.tables e below (T1.setTop (mkF m 32 #[.val (.ref a), .val (.long v), .second, .val (.int ((16 : Int32) - (1 : Int32))), .val (.int ((own_hs v + d) % 16).toInt32)] [(.long (0 : Int64)), (.long (vs.getD ((own_hs v + d) % 16) 0))])) _
    refine XS.lcmp X1.here hx rfl (hb hby d8_32) rfl ?_
    show Steps p.tables e below (T1.setTop (mkF m 33 #[.val (.ref a), .val (.long v), .second, .val (.int ((16 : Int32) - (1 : Int32))), .val (.int ((own_hs v + d) % 16).toInt32)] [(.int (lcmpW (vs.getD ((own_hs v + d) % 16) 0) (0 : Int64)))])) _
    refine XS.ifNo X1.here hx rfl (hb hby d8_33) rfl ((if0 _ _).trans (feq (fun z => hz ((lw_eq _ _).mp z))).1) ?_
    show Steps p.tables e below (T1.setTop (mkF m 36 #[.val (.ref a), .val (.long v), .second, .val (.int ((16 : Int32) - (1 : Int32))), .val (.int ((own_hs v + d) % 16).toInt32)] [])) _
    refine XS.aloadN X1.here hx rfl (hb hby d8_36) rfl rfl ?_
    show Steps p.tables e below (T1.setTop (mkF m 37 #[.val (.ref a), .val (.long v), .second, .val (.int ((16 : Int32) - (1 : Int32))), .val (.int ((own_hs v + d) % 16).toInt32)] [(.ref a)])) _
    refine st2 _ ?_
    show Steps p.tables e below (T2.setTop (mkF m 40 #[.val (.ref a), .val (.long v), .second, .val (.int ((16 : Int32) - (1 : Int32))), .val (.int ((own_hs v + d) % 16).toInt32)] [(.ref t)])) _
    refine XS.iload X2.here hx rfl (hb hby d8_40) rfl ?_
    show Steps p.tables e below (T2.setTop (mkF m 42 #[.val (.ref a), .val (.long v), .second, .val (.int ((16 : Int32) - (1 : Int32))), .val (.int ((own_hs v + d) % 16).toInt32)] [(.int ((own_hs v + d) % 16).toInt32), (.ref t)])) _
    refine X2.laload hx (j := ((own_hs v + d) % 16).toInt32) (v := (.long (vs.getD ((own_hs v + d) % 16) 0))) (by rw [e2]; exact Ar.1) (State.isArrayOf_alike hZ.alike Ar.2.1) Ar.2.2 (own_ix Sz hi hl) (own_ld Hs hi hl) (g := (mkF m 42 #[.val (.ref a), .val (.long v), .second, .val (.int ((16 : Int32) - (1 : Int32))), .val (.int ((own_hs v + d) % 16).toInt32)] [(.int ((own_hs v + d) % 16).toInt32), (.ref t)])) rfl rfl (hb hby d8_42) _ ?_
    show Steps p.tables e below (T2.setTop (mkF m 43 #[.val (.ref a), .val (.long v), .second, .val (.int ((16 : Int32) - (1 : Int32))), .val (.int ((own_hs v + d) % 16).toInt32)] [(.long (vs.getD ((own_hs v + d) % 16) 0))])) _
    refine XS.lloadN X2.here hx rfl (hb hby d8_43) rfl ?_
    show Steps p.tables e below (T2.setTop (mkF m 44 #[.val (.ref a), .val (.long v), .second, .val (.int ((16 : Int32) - (1 : Int32))), .val (.int ((own_hs v + d) % 16).toInt32)] [(.long v), (.long (vs.getD ((own_hs v + d) % 16) 0))])) _
    refine XS.lcmp X2.here hx rfl (hb hby d8_44) rfl ?_
    show Steps p.tables e below (T2.setTop (mkF m 45 #[.val (.ref a), .val (.long v), .second, .val (.int ((16 : Int32) - (1 : Int32))), .val (.int ((own_hs v + d) % 16).toInt32)] [(.int (lcmpW (vs.getD ((own_hs v + d) % 16) 0) v))])) _
    refine XS.ifNo X2.here hx rfl (hb hby d8_45) rfl ((if0 _ _).trans (feq (fun z => hv ((lw_eq _ _).mp z))).1) ?_
    show Steps p.tables e below (T2.setTop (mkF m 48 #[.val (.ref a), .val (.long v), .second, .val (.int ((16 : Int32) - (1 : Int32))), .val (.int ((own_hs v + d) % 16).toInt32)] [])) _
    refine XS.iload X2.here hx rfl (hb hby d8_48) rfl ?_
    show Steps p.tables e below (T2.setTop (mkF m 50 #[.val (.ref a), .val (.long v), .second, .val (.int ((16 : Int32) - (1 : Int32))), .val (.int ((own_hs v + d) % 16).toInt32)] [(.int ((own_hs v + d) % 16).toInt32)])) _
    refine XS.iconst X2.here hx rfl (hb hby d8_50) ?_
    show Steps p.tables e below (T2.setTop (mkF m 51 #[.val (.ref a), .val (.long v), .second, .val (.int ((16 : Int32) - (1 : Int32))), .val (.int ((own_hs v + d) % 16).toInt32)] [(.int (1 : Int32)), (.int ((own_hs v + d) % 16).toInt32)])) _
    refine XS.iadd X2.here hx rfl (hb hby d8_51) rfl ?_
    show Steps p.tables e below (T2.setTop (mkF m 52 #[.val (.ref a), .val (.long v), .second, .val (.int ((16 : Int32) - (1 : Int32))), .val (.int ((own_hs v + d) % 16).toInt32)] [(.int (((own_hs v + d) % 16).toInt32 + (1 : Int32)))])) _
    refine XS.iloadN X2.here hx rfl (hb hby d8_52) rfl ?_
    show Steps p.tables e below (T2.setTop (mkF m 53 #[.val (.ref a), .val (.long v), .second, .val (.int ((16 : Int32) - (1 : Int32))), .val (.int ((own_hs v + d) % 16).toInt32)] [(.int ((16 : Int32) - (1 : Int32))), (.int (((own_hs v + d) % 16).toInt32 + (1 : Int32)))])) _
    refine XS.iand X2.here hx rfl (hb hby d8_53) rfl ?_
    show Steps p.tables e below (T2.setTop (mkF m 54 #[.val (.ref a), .val (.long v), .second, .val (.int ((16 : Int32) - (1 : Int32))), .val (.int ((own_hs v + d) % 16).toInt32)] [(.int ((((own_hs v + d) % 16).toInt32 + (1 : Int32)) &&& ((16 : Int32) - (1 : Int32))))])) _
    refine XS.istore X2.here hx rfl (hb hby d8_54) rfl (l' := #[.val (.ref a), .val (.long v), .second, .val (.int ((16 : Int32) - (1 : Int32))), .val (.int ((((own_hs v + d) % 16).toInt32 + (1 : Int32)) &&& ((16 : Int32) - (1 : Int32))))]) rfl ?_
    show Steps p.tables e below (T2.setTop (mkF m 56 #[.val (.ref a), .val (.long v), .second, .val (.int ((16 : Int32) - (1 : Int32))), .val (.int ((((own_hs v + d) % 16).toInt32 + (1 : Int32)) &&& ((16 : Int32) - (1 : Int32))))] [])) _
    refine XS.goto X2.here hx rfl (pc0 := 56) (pc' := 24) rfl (hb hby d8_56) (by decide) (by decide) ?_
    rw [own_wrap (by omega), show (((own_hs v + d) % 16) + 1) % 16 = (own_hs v + (d + 1)) % 16 by omega]
    exact st' target kt
theorem ef_8 (m : MethodId) (x0 : Addr) (x1 : Int64) : entryFrame m #[(.ref x0), (.long x1)] 5 = mkF m 0 #[.val (.ref x0), .val (.long x1), .second, .unset, .unset] [] := by first | (simp [entryFrame, mkF, argsToLocals, Value.category]; done) | rfl
def Q8 (a t : Addr) (v : Int64) (vs : List Int64) (D : Nat) (h0 : Heap) (n0 : Nat) (vv : Option Value) (h : Heap) (L : List Loc) : Prop := vv = some (.int ((own_hs v + D) % 16).toInt32) ∧ Fr n0 L ∧ h = h0
set_option maxRecDepth 65536 in
set_option maxHeartbeats 40000000 in
theorem rm8 (l : Launch) (Z : State) (a0 : Array Value) (hw : ∀ d ∈ tables_1, d.before a0 Z = true) (ws' : List Jvm.Cond) (a t : Addr) (v : Int64) (vs : List Int64) (D : Nat) (h0 : Heap) (n0 : Nat) (Z0 : n0 ≤ h0.size) (F1 : Fld Z h0 a "com/example/intact_keys/intactkeys/check/KeySet" "slots" "[J" (.ref t)) (F2 : Fld Z h0 a "com/example/intact_keys/intactkeys/check/KeySet" "bits" "I" (.int 4)) (A : own_J Z h0 t vs) (h16 : vs.length = 16) (ff : own_first own_hs vs v D) :
    MetFree l (⟨"com/example/intact_keys/intactkeys/check/KeySet", "slotOf", "(J)I"⟩ : MethodName) (head1 (Jvm.Cond.code (⟨"com/example/intact_keys/intactkeys/check/KeySet", "slotOf", "(J)I"⟩ : MethodName) prog_48_method_14_code 5 (some .int) :: ws') ({ frames := 0, cells := 0, slots := 0, locals := 0 } : Room)) (fun aa U => aa = #[(.ref a), (.long v)] ∧ Z.Warmed39 U.vm ∧ U.heap = h0) (fun _ _ _ _ _ => True) (fun _ U o U' => ∃ vv L, o = .returned vv ∧ Q8 a t v vs D h0 n0 vv U'.heap L ∧ FrameEnd U o U' L (({ frames := 0, cells := 0, slots := 0, locals := 0 } : Room)).cells (({ frames := 0, cells := 0, slots := 0, locals := 0 } : Room)).slots) := by
  refine MetFree.of_bodySF (plainFor_of_name pn_K) hisR ?_
  intro p e s m args below meth c s₁ Bd hml0 hP hK
  obtain ⟨rfl, hZ, hh⟩ := hP
  have hx := Bd.exec
  have hby := Bd.bytes
  have hml : c.maxLocals = 5 := hml0
  have hown : s.vm.findClass "com/example/intact_keys/intactkeys/check/KeySet" = some m.cls := findClass_of_methodNamed Bd.named
  have hnm := (name_of_methodNamed Bd.named Bd.method).1
  have X0 : Stand p l e ({ frames := 0, cells := 0, slots := 0, locals := 0 } : Room) s m #[(.ref a), (.long v)] below meth c s₁ [] 0 0 := Stand.of_body Bd
  have e0 : s₁.heap = h0 := by rw [← hh, Bd.state]; rfl
  have N0 := Fr.nil n0
  obtain ⟨cl, Ar, Sz, Hs⟩ := A
  have Sz16 : cl.slots.size.toInt32 = 16 := by rw [Sz, h16]; rfl
  obtain ⟨T1, X1, e1, st1⟩ := getF X0 hx hZ hown (host := "") (Or.inl (hw _ (List.mem_of_getElem? (i := 10) rfl))) Via.refl e0 F1 (g := (mkF m 1 #[.val (.ref a), .val (.long v), .second, .unset, .unset] [(.ref a)])) rfl rfl (hb hby d8_1)
  obtain ⟨T2, X2, e2, st2⟩ := getF X1 hx hZ hown (host := "") (Or.inl (hw _ (List.mem_of_getElem? (i := 17) rfl))) Via.refl e1 F2 (g := (mkF m 16 #[.val (.ref a), .val (.long v), .second, .val (.int ((16 : Int32) - (1 : Int32))), .unset] [(.ref a), (.int (64 : Int32)), (.long (v * (-7046029254386353131 : Int64)))])) rfl rfl (hb hby d8_16)
  obtain ⟨T3, X3, e3, st3⟩ := own_probe a t v vs D hx hZ hw hby hown F1 cl Ar Sz Hs h16 ff D 0 T2 X2 e2 (by omega)
  obtain ⟨fs, hr, hrun, hended, hW, hsame⟩ := X3.leave (v := some (.int ((own_hs v + D) % 16).toInt32)) (fun h => by rw [Bd.returns] at h; cases h)
  refine ⟨_, _, castTop (ef_8 m a v) ?_, hrun, hended, _, _, rfl, ?_, ⟨_, rfl⟩, hW, hsame.mono (by decide) (by decide)⟩
  · show Steps p.tables e below (s₁.setTop (mkF m 0 #[.val (.ref a), .val (.long v), .second, .unset, .unset] [])) _
    refine XS.aloadN X0.here hx rfl (hb hby d8_0) rfl rfl ?_
    show Steps p.tables e below (s₁.setTop (mkF m 1 #[.val (.ref a), .val (.long v), .second, .unset, .unset] [(.ref a)])) _
    refine st1 _ ?_
    show Steps p.tables e below (T1.setTop (mkF m 4 #[.val (.ref a), .val (.long v), .second, .unset, .unset] [(.ref t)])) _
    refine X1.arraylength hx (by rw [e1]; exact Ar.1) (State.isArrayOf_alike hZ.alike Ar.2.1) (g := (mkF m 4 #[.val (.ref a), .val (.long v), .second, .unset, .unset] [(.ref t)])) rfl rfl (hb hby d8_4) _ ?_
    rw [Sz16]
    show Steps p.tables e below (T1.setTop (mkF m 5 #[.val (.ref a), .val (.long v), .second, .unset, .unset] [(.int (16 : Int32))])) _
    refine XS.iconst X1.here hx rfl (hb hby d8_5) ?_
    show Steps p.tables e below (T1.setTop (mkF m 6 #[.val (.ref a), .val (.long v), .second, .unset, .unset] [(.int (1 : Int32)), (.int (16 : Int32))])) _
    refine XS.isub X1.here hx rfl (hb hby d8_6) rfl ?_
    show Steps p.tables e below (T1.setTop (mkF m 7 #[.val (.ref a), .val (.long v), .second, .unset, .unset] [(.int ((16 : Int32) - (1 : Int32)))])) _
    refine XS.istoreN X1.here hx rfl (hb hby d8_7) rfl (l' := #[.val (.ref a), .val (.long v), .second, .val (.int ((16 : Int32) - (1 : Int32))), .unset]) rfl ?_
    show Steps p.tables e below (T1.setTop (mkF m 8 #[.val (.ref a), .val (.long v), .second, .val (.int ((16 : Int32) - (1 : Int32))), .unset] [])) _
    refine XS.lloadN X1.here hx rfl (hb hby d8_8) rfl ?_
    show Steps p.tables e below (T1.setTop (mkF m 9 #[.val (.ref a), .val (.long v), .second, .val (.int ((16 : Int32) - (1 : Int32))), .unset] [(.long v)])) _
    refine X1.ldc2Long hx hown (mvT hZ (hw _ (List.mem_of_getElem? (i := 62) rfl))) (g := (mkF m 9 #[.val (.ref a), .val (.long v), .second, .val (.int ((16 : Int32) - (1 : Int32))), .unset] [(.long v)])) rfl (hb hby d8_9) _ ?_
    show Steps p.tables e below (T1.setTop (mkF m 12 #[.val (.ref a), .val (.long v), .second, .val (.int ((16 : Int32) - (1 : Int32))), .unset] [(.long (-7046029254386353131 : Int64)), (.long v)])) _
    refine XS.lmul X1.here hx rfl (hb hby d8_12) rfl ?_
    show Steps p.tables e below (T1.setTop (mkF m 13 #[.val (.ref a), .val (.long v), .second, .val (.int ((16 : Int32) - (1 : Int32))), .unset] [(.long (v * (-7046029254386353131 : Int64)))])) _
    refine XS.bipush X1.here hx rfl (hb hby d8_13) ?_
    show Steps p.tables e below (T1.setTop (mkF m 15 #[.val (.ref a), .val (.long v), .second, .val (.int ((16 : Int32) - (1 : Int32))), .unset] [(.int (64 : Int32)), (.long (v * (-7046029254386353131 : Int64)))])) _
    refine XS.aloadN X1.here hx rfl (hb hby d8_15) rfl rfl ?_
    show Steps p.tables e below (T1.setTop (mkF m 16 #[.val (.ref a), .val (.long v), .second, .val (.int ((16 : Int32) - (1 : Int32))), .unset] [(.ref a), (.int (64 : Int32)), (.long (v * (-7046029254386353131 : Int64)))])) _
    refine st2 _ ?_
    show Steps p.tables e below (T2.setTop (mkF m 19 #[.val (.ref a), .val (.long v), .second, .val (.int ((16 : Int32) - (1 : Int32))), .unset] [(.int (4 : Int32)), (.int (64 : Int32)), (.long (v * (-7046029254386353131 : Int64)))])) _
    refine XS.isub X2.here hx rfl (hb hby d8_19) rfl ?_
    show Steps p.tables e below (T2.setTop (mkF m 20 #[.val (.ref a), .val (.long v), .second, .val (.int ((16 : Int32) - (1 : Int32))), .unset] [(.int ((64 : Int32) - (4 : Int32))), (.long (v * (-7046029254386353131 : Int64)))])) _
    refine XS.lushr X2.here hx rfl (hb hby d8_20) rfl ?_
    show Steps p.tables e below (T2.setTop (mkF m 21 #[.val (.ref a), .val (.long v), .second, .val (.int ((16 : Int32) - (1 : Int32))), .unset] [(.long (((v * (-7046029254386353131 : Int64)).toUInt64 >>> (((64 : Int32) - (4 : Int32)) &&& 0x3f).toInt64.toUInt64).toInt64))])) _
    refine XS.l2i X2.here hx rfl (hb hby d8_21) rfl ?_
    show Steps p.tables e below (T2.setTop (mkF m 22 #[.val (.ref a), .val (.long v), .second, .val (.int ((16 : Int32) - (1 : Int32))), .unset] [(.int ((((v * (-7046029254386353131 : Int64)).toUInt64 >>> (((64 : Int32) - (4 : Int32)) &&& 0x3f).toInt64.toUInt64).toInt64).toInt32))])) _
    refine XS.istore X2.here hx rfl (hb hby d8_22) rfl (l' := #[.val (.ref a), .val (.long v), .second, .val (.int ((16 : Int32) - (1 : Int32))), .val (.int ((((v * (-7046029254386353131 : Int64)).toUInt64 >>> (((64 : Int32) - (4 : Int32)) &&& 0x3f).toInt64.toUInt64).toInt64).toInt32))]) rfl ?_
    have hi0 : ((((v * (-7046029254386353131 : Int64)).toUInt64 >>> (((64 : Int32) - (4 : Int32)) &&& 0x3f).toInt64.toUInt64).toInt64).toInt32) = ((own_hs v + 0) % 16).toInt32 := by
      show own_hi v = _
      rw [own_hi_eq, Nat.add_zero, Nat.mod_eq_of_lt (own_hs_lt v)]
    rw [hi0]
    show Steps p.tables e below (T2.setTop (mkF m 24 #[.val (.ref a), .val (.long v), .second, .val (.int ((16 : Int32) - (1 : Int32))), .val (.int ((own_hs v + 0) % 16).toInt32)] [])) _
    refine st3 _ ?_
    show Steps p.tables e below (T3.setTop (mkF m 59 #[.val (.ref a), .val (.long v), .second, .val (.int ((16 : Int32) - (1 : Int32))), .val (.int ((own_hs v + D) % 16).toInt32)] [])) _
    refine XS.iload X3.here hx rfl (hb hby d8_59) rfl ?_
    exact retI X3 hx Bd.returns (hb hby d8_61) hr
  · exact ⟨rfl, N0, e3⟩
theorem ef_7 (m : MethodId) (x0 : Addr) (x1 : Int64) : entryFrame m #[(.ref x0), (.long x1)] 4 = mkF m 0 #[.val (.ref x0), .val (.long x1), .second, .unset] [] := by first | (simp [entryFrame, mkF, argsToLocals, Value.category]; done) | rfl
def Q7 (Z : State) (a t : Addr) (v : Int64) (vs : List Int64) (cnt : Nat) (hz : Int32) (D : Nat) (h0 : Heap) (n0 : Nat) (vv : Option Value) (h : Heap) (L : List Loc) : Prop := ∃ (r : Int32) (vs' : List Int64) (cnt' : Nat), vv = some (.int r) ∧ (r = 0 ∨ r = 1) ∧ Fr n0 L ∧ own_K Z h a t vs' cnt' hz ∧ Keep h0 h [a, t] ∧ ((vs.getD ((own_hs v + D) % 16) 0 = v ∧ vs' = vs ∧ cnt' = cnt) ∨ (¬ vs.getD ((own_hs v + D) % 16) 0 = v ∧ vs' = vs.set ((own_hs v + D) % 16) v ∧ cnt' = cnt + 1))
set_option maxRecDepth 65536 in
set_option maxHeartbeats 40000000 in
theorem rm7 (l : Launch) (Z : State) (a0 : Array Value) (hw : ∀ d ∈ tables_1, d.before a0 Z = true) (ws' : List Jvm.Cond) (a t : Addr) (v : Int64) (vs : List Int64) (cnt : Nat) (hz : Int32) (D : Nat) (h0 : Heap) (n0 : Nat) (Z0 : n0 ≤ h0.size) (A : own_K Z h0 a t vs cnt hz) (h16 : vs.length = 16) (ff : own_first own_hs vs v D) (hc : cnt ≤ 11) (ga : n0 ≤ a) (gt : n0 ≤ t) :
    MetFree l (⟨"com/example/intact_keys/intactkeys/check/KeySet", "addToTable", "(J)Z"⟩ : MethodName) (head1 (Jvm.Cond.code (⟨"com/example/intact_keys/intactkeys/check/KeySet", "addToTable", "(J)Z"⟩ : MethodName) prog_48_method_13_code 4 (some .boolean) :: ws') ({ frames := 1, cells := 0, slots := 0, locals := 16 } : Room)) (fun aa U => aa = #[(.ref a), (.long v)] ∧ Z.Warmed39 U.vm ∧ U.heap = h0) (fun _ _ _ _ _ => True) (fun _ U o U' => ∃ vv L, o = .returned vv ∧ Q7 Z a t v vs cnt hz D h0 n0 vv U'.heap L ∧ FrameEnd U o U' L (({ frames := 1, cells := 0, slots := 0, locals := 16 } : Room)).cells (({ frames := 1, cells := 0, slots := 0, locals := 16 } : Room)).slots) := by
  refine MetFree.of_bodySF (plainFor_of_name pn_K) hisR ?_
  intro p e s m args below meth c s₁ Bd hml0 hP hK
  obtain ⟨rfl, hZ, hh⟩ := hP
  have hx := Bd.exec
  have hby := Bd.bytes
  have hml : c.maxLocals = 4 := hml0
  have hown : s.vm.findClass "com/example/intact_keys/intactkeys/check/KeySet" = some m.cls := findClass_of_methodNamed Bd.named
  have hnm := (name_of_methodNamed Bd.named Bd.method).1
  have X0 : Stand p l e ({ frames := 1, cells := 0, slots := 0, locals := 16 } : Room) s m #[(.ref a), (.long v)] below meth c s₁ [] 0 0 := Stand.of_body Bd
  have e0 : s₁.heap = h0 := by rw [← hh, Bd.state]; rfl
  have N0 := Fr.nil n0
  obtain ⟨x1, x2, x3, x4, x5, x6⟩ := A
  have hat : a ≠ t := x6.ne x1 (hw _ (List.mem_of_getElem? (i := 1) rfl))
  have hl : vs.length < 2 ^ 31 := by omega
  have hi : ((own_hs v + D) % 16) < vs.length := by omega
  obtain ⟨cl, Ar, Sz, Hs⟩ := (show own_J Z h0 t vs from x6)
  obtain ⟨cq2, q2, q2'⟩ := x1.cell
  obtain ⟨_, _, ⟨T2, L2, k2, n2⟩, -, X2, ⟨Lc2, hQ2, l2, y2, z2⟩, st2⟩ := X0.privateBack hx (y := (⟨"com/example/intact_keys/intactkeys/check/KeySet", "slotOf", "(J)I"⟩ : MethodName)) hown (mvT hZ (hw _ (List.mem_of_getElem? (i := 58) rfl))) (mvT hZ (hw _ (List.mem_of_getElem? (i := 59) rfl))) (own_selp hZ (hw _ (List.mem_of_getElem? (i := 60) rfl)) (hw _ (List.mem_of_getElem? (i := 59) rfl)) (hw _ (List.mem_of_getElem? (i := 1) rfl)) (by decide)) (Cond.privateMethod_at (mvP hZ (hw _ (List.mem_of_getElem? (i := 60) rfl)) (args := #[]))) (mvT hZ (hw _ (List.mem_of_getElem? (i := 61) rfl))) (by decide) (backOf (W := 0) (rm8 l Z a0 hw [] a t v vs D h0 n0 Z0 x2 x3 x6 h16 ff) hZ (hw _ (List.mem_of_getElem? (i := 61) rfl)) (hw _ (List.mem_of_getElem? (i := 2) rfl)) (by decide) (by decide)) (g := (mkF m 2 #[.val (.ref a), .val (.long v), .second, .unset] [(.long v), (.ref a)])) rfl (by rw [hml]; rfl) (Steps.refl _) (a := a) (by rw [e0]; exact q2) q2' (argsL := [(.long v)]) (rest := []) (lenOf (show parseMethodDescriptor "(J)I" = some ⟨[.long], (some .int)⟩ from by decide +kernel) rfl) rfl (by show 2 * 0 + _ ≤ _; exact Nat.le_of_eq rfl) (hb hby d7_2) (fun _ _ => ⟨rfl, e0, (by decide : 0 + 0 ≤ _), (by decide : 0 + 0 ≤ _)⟩)
  dsimp only [Pt.U, Pt.locs, Pt.cells, Pt.slots] at X2 l2 y2 z2 st2 hQ2
  subst l2 y2 z2
  obtain ⟨rfl, N2q, e2⟩ := hQ2
  have N2 := Fr.app N0 N2q
  obtain ⟨T3, X3, e3, st3⟩ := getF X2 hx hZ hown (host := "") (Or.inl (hw _ (List.mem_of_getElem? (i := 10) rfl))) Via.refl e2 x2 (g := (mkF m 7 #[.val (.ref a), .val (.long v), .second, .val (.int ((own_hs v + D) % 16).toInt32)] [(.ref a)])) rfl rfl (hb hby d7_7)
  by_cases hv : vs.getD ((own_hs v + D) % 16) 0 = v
  · obtain ⟨fs, hr, hrun, hended, hW, hsame⟩ := X3.leave (v := some (.int (0))) (fun h => by rw [Bd.returns] at h; cases h)
    refine ⟨_, _, castTop (ef_7 m a v) ?_, hrun, hended, _, _, rfl, ?_, ⟨_, rfl⟩, hW, hsame.mono (by decide) (by decide)⟩
    · show Steps p.tables e below (s₁.setTop (mkF m 0 #[.val (.ref a), .val (.long v), .second, .unset] [])) _
      refine XS.aloadN X0.here hx rfl (hb hby d7_0) rfl rfl ?_
      show Steps p.tables e below (s₁.setTop (mkF m 1 #[.val (.ref a), .val (.long v), .second, .unset] [(.ref a)])) _
      refine XS.lloadN X0.here hx rfl (hb hby d7_1) rfl ?_
      show Steps p.tables e below (s₁.setTop (mkF m 2 #[.val (.ref a), .val (.long v), .second, .unset] [(.long v), (.ref a)])) _
      refine st2.trans ?_
      show Steps p.tables e below (T2.setTop (mkF m 5 #[.val (.ref a), .val (.long v), .second, .unset] [(.int ((own_hs v + D) % 16).toInt32)])) _
      refine XS.istoreN X2.here hx rfl (hb hby d7_5) rfl (l' := #[.val (.ref a), .val (.long v), .second, .val (.int ((own_hs v + D) % 16).toInt32)]) rfl ?_
      show Steps p.tables e below (T2.setTop (mkF m 6 #[.val (.ref a), .val (.long v), .second, .val (.int ((own_hs v + D) % 16).toInt32)] [])) _
      refine XS.aloadN X2.here hx rfl (hb hby d7_6) rfl rfl ?_
      show Steps p.tables e below (T2.setTop (mkF m 7 #[.val (.ref a), .val (.long v), .second, .val (.int ((own_hs v + D) % 16).toInt32)] [(.ref a)])) _
      refine st3 _ ?_
      show Steps p.tables e below (T3.setTop (mkF m 10 #[.val (.ref a), .val (.long v), .second, .val (.int ((own_hs v + D) % 16).toInt32)] [(.ref t)])) _
      refine XS.iloadN X3.here hx rfl (hb hby d7_10) rfl ?_
      show Steps p.tables e below (T3.setTop (mkF m 11 #[.val (.ref a), .val (.long v), .second, .val (.int ((own_hs v + D) % 16).toInt32)] [(.int ((own_hs v + D) % 16).toInt32), (.ref t)])) _
      refine X3.laload hx (j := ((own_hs v + D) % 16).toInt32) (v := (.long (vs.getD ((own_hs v + D) % 16) 0))) (by rw [e3]; exact Ar.1) (State.isArrayOf_alike hZ.alike Ar.2.1) Ar.2.2 (own_ix Sz hi hl) (own_ld Hs hi hl) (g := (mkF m 11 #[.val (.ref a), .val (.long v), .second, .val (.int ((own_hs v + D) % 16).toInt32)] [(.int ((own_hs v + D) % 16).toInt32), (.ref t)])) rfl rfl (hb hby d7_11) _ ?_
      show Steps p.tables e below (T3.setTop (mkF m 12 #[.val (.ref a), .val (.long v), .second, .val (.int ((own_hs v + D) % 16).toInt32)] [(.long (vs.getD ((own_hs v + D) % 16) 0))])) _
      refine XS.lloadN X3.here hx rfl (hb hby d7_12) rfl ?_
      show Steps p.tables e below (T3.setTop (mkF m 13 #[.val (.ref a), .val (.long v), .second, .val (.int ((own_hs v + D) % 16).toInt32)] [(.long v), (.long (vs.getD ((own_hs v + D) % 16) 0))])) _
      refine XS.lcmp X3.here hx rfl (hb hby d7_13) rfl ?_
      show Steps p.tables e below (T3.setTop (mkF m 14 #[.val (.ref a), .val (.long v), .second, .val (.int ((own_hs v + D) % 16).toInt32)] [(.int (lcmpW (vs.getD ((own_hs v + D) % 16) 0) v))])) _
      refine XS.ifNo X3.here hx rfl (hb hby d7_14) rfl ((if0 _ _).trans (teq ((lw_eq _ _).mpr hv)).2) ?_
      show Steps p.tables e below (T3.setTop (mkF m 17 #[.val (.ref a), .val (.long v), .second, .val (.int ((own_hs v + D) % 16).toInt32)] [])) _
      refine XS.iconst X3.here hx rfl (hb hby d7_17) ?_
      exact retN X3 hx (t := .boolean) Bd.returns (by simp) (hb hby d7_18) hr
    · exact ⟨0, vs, cnt, rfl, Or.inl rfl, N2, by rw [show (T3.setFrames fs).heap = h0 from e3]; exact ⟨x1, x2, x3, x4, x5, x6⟩, by rw [show (T3.setFrames fs).heap = h0 from e3]; exact Keep.refl _ _, Or.inl ⟨hv, rfl, rfl⟩⟩
  · obtain ⟨T4, X4, e4, st4⟩ := getF X3 hx hZ hown (host := "") (Or.inl (hw _ (List.mem_of_getElem? (i := 10) rfl))) Via.refl e3 x2 (g := (mkF m 20 #[.val (.ref a), .val (.long v), .second, .val (.int ((own_hs v + D) % 16).toInt32)] [(.ref a)])) rfl rfl (hb hby d7_20)
    obtain ⟨T5, h5, L5, X5, e5, A5, N5, z5, K5, st5⟩ := own_st X4 hx hZ e4 x6 gt N2 ((own_hs v + D) % 16).toInt32 ((own_hs v + D) % 16) (own_nat (by omega)) hi v (g := (mkF m 25 #[.val (.ref a), .val (.long v), .second, .val (.int ((own_hs v + D) % 16).toInt32)] [(.long v), (.int ((own_hs v + D) % 16).toInt32), (.ref t)])) rfl rfl (hb hby d7_25)
    have nat : a ∉ [t] := ninS hat nin0
    have x1' := x1.keep K5
    have x2' := x2.keep K5 nat
    have x3' := x3.keep K5 nat
    have x4' := x4.keep K5 nat
    have x5' := x5.keep K5 nat
    obtain ⟨T6, X6, e6, st6⟩ := getF X5 hx hZ hown (host := "") (Or.inl (hw _ (List.mem_of_getElem? (i := 45) rfl))) Via.refl e5 x4' (g := (mkF m 28 #[.val (.ref a), .val (.long v), .second, .val (.int ((own_hs v + D) % 16).toInt32)] [(.ref a), (.ref a)])) rfl rfl (hb hby d7_28)
    obtain ⟨T7, h7, X7, e7, W7, st7⟩ := putF X6 hx hZ hown (host := "") (Or.inl (hw _ (List.mem_of_getElem? (i := 45) rfl))) Via.refl e6 x4' x1' (Or.inl (hw _ (List.mem_of_getElem? (i := 46) rfl))) (hw _ (List.mem_of_getElem? (i := 1) rfl)) (ty := .int) (by decide) rfl rfl (g := (mkF m 33 #[.val (.ref a), .val (.long v), .second, .val (.int ((own_hs v + D) % 16).toInt32)] [(.int (cnt.toInt32 + (1 : Int32))), (.ref a)])) rfl rfl (hb hby d7_33)
    have y1 := x1'.wr W7
    have y_slots := x2'.other W7 (Or.inr (slot_ne (Or.inl (hw _ (List.mem_of_getElem? (i := 11) rfl))) (Or.inl (hw _ (List.mem_of_getElem? (i := 46) rfl))) (by decide) (t := (.array .long)) (t' := .int) (by decide) (by decide)))
    have y_bits := x3'.other W7 (Or.inr (slot_ne (Or.inl (hw _ (List.mem_of_getElem? (i := 18) rfl))) (Or.inl (hw _ (List.mem_of_getElem? (i := 46) rfl))) (by decide) (t := .int) (t' := .int) (by decide) (by decide)))
    have y_holdsZero := x5'.other W7 (Or.inr (slot_ne (Or.inl (hw _ (List.mem_of_getElem? (i := 48) rfl))) (Or.inl (hw _ (List.mem_of_getElem? (i := 46) rfl))) (by decide) (t := .boolean) (t' := .int) (by decide) (by decide)))
    have y_packedCount := x4'.same W7
    rw [own_succ] at y_packedCount
    have A7 : own_J Z h7 t (vs.set ((own_hs v + D) % 16) v) := A5.other W7 (Ne.symm hat)
    have N7 := Fr.snoc X7 N5 ga
    have K7 : Keep h0 h7 [a, t] := (Keep.trans (Keep.refl h0 [a, t]) K5 (allS (Or.inl (List.mem_of_getElem? (i := 1) rfl)) all0)).wr W7 (Or.inl (List.mem_of_getElem? (i := 0) rfl))
    have Z7 : n0 ≤ h7.size := Nat.le_trans Z0 K7.1
    obtain ⟨T8, X8, e8, st8⟩ := getF X7 hx hZ hown (host := "") (Or.inl (hw _ (List.mem_of_getElem? (i := 45) rfl))) Via.refl e7 y_packedCount (g := (mkF m 37 #[.val (.ref a), .val (.long v), .second, .val (.int ((own_hs v + D) % 16).toInt32)] [(.ref a)])) rfl rfl (hb hby d7_37)
    obtain ⟨T9, X9, e9, st9⟩ := getF X8 hx hZ hown (host := "") (Or.inl (hw _ (List.mem_of_getElem? (i := 10) rfl))) Via.refl e8 y_slots (g := (mkF m 41 #[.val (.ref a), .val (.long v), .second, .val (.int ((own_hs v + D) % 16).toInt32)] [(.ref a), (.int (cnt + 1).toInt32)])) rfl rfl (hb hby d7_41)
    obtain ⟨_, _, ⟨T10, L10, k10, n10⟩, -, X10, ⟨Lc10, hQ10, l10, y10, z10⟩, st10⟩ := Jvm.LawKit.callS X9 hx (y := (⟨"com/example/intact_keys/intactkeys/check/KeySet", "isOverfull", "(I[J)Z"⟩ : MethodName)) hown (mvT hZ (hw _ (List.mem_of_getElem? (i := 63) rfl))) (mvT hZ (hw _ (List.mem_of_getElem? (i := 64) rfl))) (mvT hZ (hw _ (List.mem_of_getElem? (i := 2) rfl))) (mvT hZ (hw _ (List.mem_of_getElem? (i := 65) rfl))) (by decide) (backOf (W := 0) (rm9 l Z a0 hw [] (cnt + 1) t (vs.set ((own_hs v + D) % 16) v) h7 n0 Z7 A7 (by rw [List.length_set]; exact h16) (by omega)) hZ (hw _ (List.mem_of_getElem? (i := 65) rfl)) (hw _ (List.mem_of_getElem? (i := 2) rfl)) (by decide) (by decide)) (g := (mkF m 44 #[.val (.ref a), .val (.long v), .second, .val (.int ((own_hs v + D) % 16).toInt32)] [(.ref t), (.int (cnt + 1).toInt32)])) rfl (by rw [hml]; rfl) (argsL := [(.int (cnt + 1).toInt32), (.ref t)]) (rest := []) (lenOf (show parseMethodDescriptor "(I[J)Z" = some ⟨[.int, (.array .long)], (some .boolean)⟩ from by decide +kernel) rfl) rfl (by show 2 * 0 + _ ≤ _; exact Nat.le_of_eq rfl) (hb hby d7_44) (fun _ _ => ⟨rfl, e9, (by decide : 0 + 0 ≤ _), (by decide : 0 + 0 ≤ _)⟩)
    dsimp only [Pt.U, Pt.locs, Pt.cells, Pt.slots] at X10 l10 y10 z10 st10 hQ10
    subst l10 y10 z10
    obtain ⟨rfl, N10q, e10⟩ := hQ10
    have N10 := Fr.app N7 N10q
    obtain ⟨fs, hr, hrun, hended, hW, hsame⟩ := X10.leave (v := some (.int (1))) (fun h => by rw [Bd.returns] at h; cases h)
    refine ⟨_, _, castTop (ef_7 m a v) ?_, hrun, hended, _, _, rfl, ?_, ⟨_, rfl⟩, hW, hsame.mono (by decide) (by decide)⟩
    · show Steps p.tables e below (s₁.setTop (mkF m 0 #[.val (.ref a), .val (.long v), .second, .unset] [])) _
      refine XS.aloadN X0.here hx rfl (hb hby d7_0) rfl rfl ?_
      show Steps p.tables e below (s₁.setTop (mkF m 1 #[.val (.ref a), .val (.long v), .second, .unset] [(.ref a)])) _
      refine XS.lloadN X0.here hx rfl (hb hby d7_1) rfl ?_
      show Steps p.tables e below (s₁.setTop (mkF m 2 #[.val (.ref a), .val (.long v), .second, .unset] [(.long v), (.ref a)])) _
      refine st2.trans ?_
      show Steps p.tables e below (T2.setTop (mkF m 5 #[.val (.ref a), .val (.long v), .second, .unset] [(.int ((own_hs v + D) % 16).toInt32)])) _
      refine XS.istoreN X2.here hx rfl (hb hby d7_5) rfl (l' := #[.val (.ref a), .val (.long v), .second, .val (.int ((own_hs v + D) % 16).toInt32)]) rfl ?_
      show Steps p.tables e below (T2.setTop (mkF m 6 #[.val (.ref a), .val (.long v), .second, .val (.int ((own_hs v + D) % 16).toInt32)] [])) _
      refine XS.aloadN X2.here hx rfl (hb hby d7_6) rfl rfl ?_
      show Steps p.tables e below (T2.setTop (mkF m 7 #[.val (.ref a), .val (.long v), .second, .val (.int ((own_hs v + D) % 16).toInt32)] [(.ref a)])) _
      refine st3 _ ?_
      show Steps p.tables e below (T3.setTop (mkF m 10 #[.val (.ref a), .val (.long v), .second, .val (.int ((own_hs v + D) % 16).toInt32)] [(.ref t)])) _
      refine XS.iloadN X3.here hx rfl (hb hby d7_10) rfl ?_
      show Steps p.tables e below (T3.setTop (mkF m 11 #[.val (.ref a), .val (.long v), .second, .val (.int ((own_hs v + D) % 16).toInt32)] [(.int ((own_hs v + D) % 16).toInt32), (.ref t)])) _
      refine X3.laload hx (j := ((own_hs v + D) % 16).toInt32) (v := (.long (vs.getD ((own_hs v + D) % 16) 0))) (by rw [e3]; exact Ar.1) (State.isArrayOf_alike hZ.alike Ar.2.1) Ar.2.2 (own_ix Sz hi hl) (own_ld Hs hi hl) (g := (mkF m 11 #[.val (.ref a), .val (.long v), .second, .val (.int ((own_hs v + D) % 16).toInt32)] [(.int ((own_hs v + D) % 16).toInt32), (.ref t)])) rfl rfl (hb hby d7_11) _ ?_
      show Steps p.tables e below (T3.setTop (mkF m 12 #[.val (.ref a), .val (.long v), .second, .val (.int ((own_hs v + D) % 16).toInt32)] [(.long (vs.getD ((own_hs v + D) % 16) 0))])) _
      refine XS.lloadN X3.here hx rfl (hb hby d7_12) rfl ?_
      show Steps p.tables e below (T3.setTop (mkF m 13 #[.val (.ref a), .val (.long v), .second, .val (.int ((own_hs v + D) % 16).toInt32)] [(.long v), (.long (vs.getD ((own_hs v + D) % 16) 0))])) _
      refine XS.lcmp X3.here hx rfl (hb hby d7_13) rfl ?_
      show Steps p.tables e below (T3.setTop (mkF m 14 #[.val (.ref a), .val (.long v), .second, .val (.int ((own_hs v + D) % 16).toInt32)] [(.int (lcmpW (vs.getD ((own_hs v + D) % 16) 0) v))])) _
      refine XS.ifYes X3.here hx rfl (pc0 := 14) (pc' := 19) rfl (hb hby d7_14) rfl ((if0 _ _).trans (feq (fun z => hv ((lw_eq _ _).mp z))).2) (by decide) (by decide) ?_
      show Steps p.tables e below (T3.setTop (mkF m 19 #[.val (.ref a), .val (.long v), .second, .val (.int ((own_hs v + D) % 16).toInt32)] [])) _
      refine XS.aloadN X3.here hx rfl (hb hby d7_19) rfl rfl ?_
      show Steps p.tables e below (T3.setTop (mkF m 20 #[.val (.ref a), .val (.long v), .second, .val (.int ((own_hs v + D) % 16).toInt32)] [(.ref a)])) _
      refine st4 _ ?_
      show Steps p.tables e below (T4.setTop (mkF m 23 #[.val (.ref a), .val (.long v), .second, .val (.int ((own_hs v + D) % 16).toInt32)] [(.ref t)])) _
      refine XS.iloadN X4.here hx rfl (hb hby d7_23) rfl ?_
      show Steps p.tables e below (T4.setTop (mkF m 24 #[.val (.ref a), .val (.long v), .second, .val (.int ((own_hs v + D) % 16).toInt32)] [(.int ((own_hs v + D) % 16).toInt32), (.ref t)])) _
      refine XS.lloadN X4.here hx rfl (hb hby d7_24) rfl ?_
      show Steps p.tables e below (T4.setTop (mkF m 25 #[.val (.ref a), .val (.long v), .second, .val (.int ((own_hs v + D) % 16).toInt32)] [(.long v), (.int ((own_hs v + D) % 16).toInt32), (.ref t)])) _
      refine st5 _ ?_
      show Steps p.tables e below (T5.setTop (mkF m 26 #[.val (.ref a), .val (.long v), .second, .val (.int ((own_hs v + D) % 16).toInt32)] [])) _
      refine XS.aloadN X5.here hx rfl (hb hby d7_26) rfl rfl ?_
      show Steps p.tables e below (T5.setTop (mkF m 27 #[.val (.ref a), .val (.long v), .second, .val (.int ((own_hs v + D) % 16).toInt32)] [(.ref a)])) _
      refine XS.dup X5.here hx rfl (hb hby d7_27) rfl rfl ?_
      show Steps p.tables e below (T5.setTop (mkF m 28 #[.val (.ref a), .val (.long v), .second, .val (.int ((own_hs v + D) % 16).toInt32)] [(.ref a), (.ref a)])) _
      refine st6 _ ?_
      show Steps p.tables e below (T6.setTop (mkF m 31 #[.val (.ref a), .val (.long v), .second, .val (.int ((own_hs v + D) % 16).toInt32)] [(.int cnt.toInt32), (.ref a)])) _
      refine XS.iconst X6.here hx rfl (hb hby d7_31) ?_
      show Steps p.tables e below (T6.setTop (mkF m 32 #[.val (.ref a), .val (.long v), .second, .val (.int ((own_hs v + D) % 16).toInt32)] [(.int (1 : Int32)), (.int cnt.toInt32), (.ref a)])) _
      refine XS.iadd X6.here hx rfl (hb hby d7_32) rfl ?_
      show Steps p.tables e below (T6.setTop (mkF m 33 #[.val (.ref a), .val (.long v), .second, .val (.int ((own_hs v + D) % 16).toInt32)] [(.int (cnt.toInt32 + (1 : Int32))), (.ref a)])) _
      refine st7 _ ?_
      show Steps p.tables e below (T7.setTop (mkF m 36 #[.val (.ref a), .val (.long v), .second, .val (.int ((own_hs v + D) % 16).toInt32)] [])) _
      refine XS.aloadN X7.here hx rfl (hb hby d7_36) rfl rfl ?_
      show Steps p.tables e below (T7.setTop (mkF m 37 #[.val (.ref a), .val (.long v), .second, .val (.int ((own_hs v + D) % 16).toInt32)] [(.ref a)])) _
      refine st8 _ ?_
      show Steps p.tables e below (T8.setTop (mkF m 40 #[.val (.ref a), .val (.long v), .second, .val (.int ((own_hs v + D) % 16).toInt32)] [(.int (cnt + 1).toInt32)])) _
      refine XS.aloadN X8.here hx rfl (hb hby d7_40) rfl rfl ?_
      show Steps p.tables e below (T8.setTop (mkF m 41 #[.val (.ref a), .val (.long v), .second, .val (.int ((own_hs v + D) % 16).toInt32)] [(.ref a), (.int (cnt + 1).toInt32)])) _
      refine st9 _ ?_
      show Steps p.tables e below (T9.setTop (mkF m 44 #[.val (.ref a), .val (.long v), .second, .val (.int ((own_hs v + D) % 16).toInt32)] [(.ref t), (.int (cnt + 1).toInt32)])) _
      refine st10 _ ?_
      show Steps p.tables e below (T10.setTop (mkF m 47 #[.val (.ref a), .val (.long v), .second, .val (.int ((own_hs v + D) % 16).toInt32)] [(.int (0 : Int32))])) _
      refine XS.ifYes X10.here hx rfl (pc0 := 47) (pc' := 54) rfl (hb hby d7_47) rfl ((if0 _ _).trans (teq (rfl : (0 : Int32) = (0 : Int32))).1) (by decide) (by decide) ?_
      show Steps p.tables e below (T10.setTop (mkF m 54 #[.val (.ref a), .val (.long v), .second, .val (.int ((own_hs v + D) % 16).toInt32)] [])) _
      refine XS.iconst X10.here hx rfl (hb hby d7_54) ?_
      exact retN X10 hx (t := .boolean) Bd.returns (by simp) (hb hby d7_55) hr
    · exact ⟨1, _, cnt + 1, rfl, Or.inr rfl, N10, by rw [show (T10.setFrames fs).heap = h7 from e10]; exact ⟨y1, y_slots, y_bits, y_packedCount, y_holdsZero, A7⟩, by rw [show (T10.setFrames fs).heap = h7 from e10]; exact K7, Or.inr ⟨hv, rfl, rfl⟩⟩
theorem ef_6 (m : MethodId) (x0 : Addr) (x1 : Int64) : entryFrame m #[(.ref x0), (.long x1)] 4 = mkF m 0 #[.val (.ref x0), .val (.long x1), .second, .unset] [] := by first | (simp [entryFrame, mkF, argsToLocals, Value.category]; done) | rfl
def Q6 (Z : State) (a t : Addr) (v : Int64) (Dl vs : List Int64) (cnt : Nat) (hz : Int32) (h0 : Heap) (n0 : Nat) (vv : Option Value) (h : Heap) (L : List Loc) : Prop := ∃ (r : Int32) (vs' : List Int64) (cnt' : Nat) (hz' : Int32), vv = some (.int r) ∧ Fr n0 L ∧ own_K Z h a t vs' cnt' hz' ∧ own_R own_hs (own_add Dl v) vs' cnt' hz' ∧ Keep h0 h [a, t]
set_option maxRecDepth 65536 in
set_option maxHeartbeats 40000000 in
theorem rm6 (l : Launch) (Z : State) (a0 : Array Value) (hw : ∀ d ∈ tables_1, d.before a0 Z = true) (ws' : List Jvm.Cond) (a t : Addr) (v : Int64) (Dl vs : List Int64) (cnt : Nat) (hz : Int32) (h0 : Heap) (n0 : Nat) (Z0 : n0 ≤ h0.size) (A : own_K Z h0 a t vs cnt hz) (rr : own_R own_hs Dl vs cnt hz) (hD : Dl.length ≤ 11) (ga : n0 ≤ a) (gt : n0 ≤ t) :
    MetFree l (⟨"com/example/intact_keys/intactkeys/check/KeySet", "addPacked", "(J)Z"⟩ : MethodName) (head1 (Jvm.Cond.code (⟨"com/example/intact_keys/intactkeys/check/KeySet", "addPacked", "(J)Z"⟩ : MethodName) prog_48_method_3_code 4 (some .boolean) :: ws') ({ frames := 2, cells := 0, slots := 0, locals := 31 } : Room)) (fun aa U => aa = #[(.ref a), (.long v)] ∧ Z.Warmed39 U.vm ∧ U.heap = h0) (fun _ _ _ _ _ => True) (fun _ U o U' => ∃ vv L, o = .returned vv ∧ Q6 Z a t v Dl vs cnt hz h0 n0 vv U'.heap L ∧ FrameEnd U o U' L (({ frames := 2, cells := 0, slots := 0, locals := 31 } : Room)).cells (({ frames := 2, cells := 0, slots := 0, locals := 31 } : Room)).slots) := by
  refine MetFree.of_bodySF (plainFor_of_name pn_K) hisR ?_
  intro p e s m args below meth c s₁ Bd hml0 hP hK
  obtain ⟨rfl, hZ, hh⟩ := hP
  have hx := Bd.exec
  have hby := Bd.bytes
  have hml : c.maxLocals = 4 := hml0
  have hown : s.vm.findClass "com/example/intact_keys/intactkeys/check/KeySet" = some m.cls := findClass_of_methodNamed Bd.named
  have hnm := (name_of_methodNamed Bd.named Bd.method).1
  have X0 : Stand p l e ({ frames := 2, cells := 0, slots := 0, locals := 31 } : Room) s m #[(.ref a), (.long v)] below meth c s₁ [] 0 0 := Stand.of_body Bd
  have e0 : s₁.heap = h0 := by rw [← hh, Bd.state]; rfl
  have N0 := Fr.nil n0
  have hcn : cnt ≤ 11 := Nat.le_trans (rr.cnt_le own_hs) hD
  obtain ⟨x1, x2, x3, x4, x5, x6⟩ := (show own_K Z h0 a t vs cnt hz from A)
  have hat : a ≠ t := x6.ne x1 (hw _ (List.mem_of_getElem? (i := 1) rfl))
  obtain ⟨z, hz1, hz2⟩ := rr.zero own_hs (by omega)
  obtain ⟨d, hd, hf⟩ := own_find own_hs hz1 hz2 v
  by_cases hv0 : v = 0
  · obtain ⟨T1, X1, e1, st1⟩ := getF X0 hx hZ hown (host := "") (Or.inl (hw _ (List.mem_of_getElem? (i := 47) rfl))) Via.refl e0 x5 (g := (mkF m 7 #[.val (.ref a), .val (.long v), .second, .unset] [(.ref a)])) rfl rfl (hb hby d6_7)
    by_cases hzz : hz = 0
    · obtain ⟨T2, h2, X2, e2, W2, st2⟩ := putFN X1 hx hZ hown (hw _ (List.mem_of_getElem? (i := 47) rfl)) Via.refl e1 x5 x1 (Or.inl (hw _ (List.mem_of_getElem? (i := 48) rfl))) (hw _ (List.mem_of_getElem? (i := 1) rfl)) (ty := .boolean) (v' := (.int (1 : Int32))) (by decide) rfl rfl (g := (mkF m 21 #[.val (.ref a), .val (.long v), .second, .val (.int (1 : Int32))] [(.int (1 : Int32)), (.ref a)])) rfl rfl (hb hby d6_21)
      have y1 := x1.wr W2
      have y_slots := x2.other W2 (Or.inr (slot_ne (Or.inl (hw _ (List.mem_of_getElem? (i := 11) rfl))) (Or.inl (hw _ (List.mem_of_getElem? (i := 48) rfl))) (by decide) (t := (.array .long)) (t' := .boolean) (by decide) (by decide)))
      have y_bits := x3.other W2 (Or.inr (slot_ne (Or.inl (hw _ (List.mem_of_getElem? (i := 18) rfl))) (Or.inl (hw _ (List.mem_of_getElem? (i := 48) rfl))) (by decide) (t := .int) (t' := .boolean) (by decide) (by decide)))
      have y_packedCount := x4.other W2 (Or.inr (slot_ne (Or.inl (hw _ (List.mem_of_getElem? (i := 46) rfl))) (Or.inl (hw _ (List.mem_of_getElem? (i := 48) rfl))) (by decide) (t := .int) (t' := .boolean) (by decide) (by decide)))
      have y_holdsZero := x5.same W2
      have A2 := x6.other W2 (Ne.symm hat)
      have N2 := Fr.snoc X2 N0 ga
      have K2 : Keep h0 h2 [a, t] := (Keep.refl h0 [a, t]).wr W2 (Or.inl (List.mem_of_getElem? (i := 0) rfl))
      obtain ⟨fs, hr, hrun, hended, hW, hsame⟩ := X2.leave (v := some (.int (nar .boolean ((1 : Int32))))) (fun h => by rw [Bd.returns] at h; cases h)
      refine ⟨_, _, castTop (ef_6 m a v) ?_, hrun, hended, _, _, rfl, ?_, ⟨_, rfl⟩, hW, hsame.mono (by decide) (by decide)⟩
      · show Steps p.tables e below (s₁.setTop (mkF m 0 #[.val (.ref a), .val (.long v), .second, .unset] [])) _
        refine XS.lloadN X0.here hx rfl (hb hby d6_0) rfl ?_
        show Steps p.tables e below (s₁.setTop (mkF m 1 #[.val (.ref a), .val (.long v), .second, .unset] [(.long v)])) _
        refine XS.lconst X0.here hx rfl (hb hby d6_1) ?_
        show Steps p.tables e below (s₁.setTop (mkF m 2 #[.val (.ref a), .val (.long v), .second, .unset] [(.long (0 : Int64)), (.long v)])) _
        refine XS.lcmp X0.here hx rfl (hb hby d6_2) rfl ?_
        show Steps p.tables e below (s₁.setTop (mkF m 3 #[.val (.ref a), .val (.long v), .second, .unset] [(.int (lcmpW v (0 : Int64)))])) _
        refine XS.ifNo X0.here hx rfl (hb hby d6_3) rfl ((if0 _ _).trans (teq ((lw_eq _ _).mpr hv0)).2) ?_
        show Steps p.tables e below (s₁.setTop (mkF m 6 #[.val (.ref a), .val (.long v), .second, .unset] [])) _
        refine XS.aloadN X0.here hx rfl (hb hby d6_6) rfl rfl ?_
        show Steps p.tables e below (s₁.setTop (mkF m 7 #[.val (.ref a), .val (.long v), .second, .unset] [(.ref a)])) _
        refine st1 _ ?_
        show Steps p.tables e below (T1.setTop (mkF m 10 #[.val (.ref a), .val (.long v), .second, .unset] [(.int hz)])) _
        refine XS.ifNo X1.here hx rfl (hb hby d6_10) rfl ((if0 _ _).trans (teq hzz).2) ?_
        show Steps p.tables e below (T1.setTop (mkF m 13 #[.val (.ref a), .val (.long v), .second, .unset] [])) _
        refine XS.iconst X1.here hx rfl (hb hby d6_13) ?_
        show Steps p.tables e below (T1.setTop (mkF m 14 #[.val (.ref a), .val (.long v), .second, .unset] [(.int (1 : Int32))])) _
        refine XS.goto X1.here hx rfl (pc0 := 14) (pc' := 18) rfl (hb hby d6_14) (by decide) (by decide) ?_
        show Steps p.tables e below (T1.setTop (mkF m 18 #[.val (.ref a), .val (.long v), .second, .unset] [(.int (1 : Int32))])) _
        refine XS.istoreN X1.here hx rfl (hb hby d6_18) rfl (l' := #[.val (.ref a), .val (.long v), .second, .val (.int (1 : Int32))]) rfl ?_
        show Steps p.tables e below (T1.setTop (mkF m 19 #[.val (.ref a), .val (.long v), .second, .val (.int (1 : Int32))] [])) _
        refine XS.aloadN X1.here hx rfl (hb hby d6_19) rfl rfl ?_
        show Steps p.tables e below (T1.setTop (mkF m 20 #[.val (.ref a), .val (.long v), .second, .val (.int (1 : Int32))] [(.ref a)])) _
        refine XS.iconst X1.here hx rfl (hb hby d6_20) ?_
        show Steps p.tables e below (T1.setTop (mkF m 21 #[.val (.ref a), .val (.long v), .second, .val (.int (1 : Int32))] [(.int (1 : Int32)), (.ref a)])) _
        refine st2 _ ?_
        show Steps p.tables e below (T2.setTop (mkF m 24 #[.val (.ref a), .val (.long v), .second, .val (.int (1 : Int32))] [])) _
        refine XS.goto X2.here hx rfl (pc0 := 24) (pc' := 33) rfl (hb hby d6_24) (by decide) (by decide) ?_
        show Steps p.tables e below (T2.setTop (mkF m 33 #[.val (.ref a), .val (.long v), .second, .val (.int (1 : Int32))] [])) _
        refine XS.iloadN X2.here hx rfl (hb hby d6_33) rfl ?_
        exact retN X2 hx (t := .boolean) Bd.returns (by simp) (hb hby d6_34) hr
      · exact ⟨_, vs, cnt, 1, rfl, N2, by rw [show (T2.setFrames fs).heap = h2 from e2]; exact ⟨y1, y_slots, y_bits, y_packedCount, y_holdsZero, A2⟩, by rw [hv0]; exact rr.zerox own_hs, by rw [show (T2.setFrames fs).heap = h2 from e2]; exact K2⟩
    · obtain ⟨T2, h2, X2, e2, W2, st2⟩ := putFN X1 hx hZ hown (hw _ (List.mem_of_getElem? (i := 47) rfl)) Via.refl e1 x5 x1 (Or.inl (hw _ (List.mem_of_getElem? (i := 48) rfl))) (hw _ (List.mem_of_getElem? (i := 1) rfl)) (ty := .boolean) (v' := (.int (1 : Int32))) (by decide) rfl rfl (g := (mkF m 21 #[.val (.ref a), .val (.long v), .second, .val (.int (0 : Int32))] [(.int (1 : Int32)), (.ref a)])) rfl rfl (hb hby d6_21)
      have y1 := x1.wr W2
      have y_slots := x2.other W2 (Or.inr (slot_ne (Or.inl (hw _ (List.mem_of_getElem? (i := 11) rfl))) (Or.inl (hw _ (List.mem_of_getElem? (i := 48) rfl))) (by decide) (t := (.array .long)) (t' := .boolean) (by decide) (by decide)))
      have y_bits := x3.other W2 (Or.inr (slot_ne (Or.inl (hw _ (List.mem_of_getElem? (i := 18) rfl))) (Or.inl (hw _ (List.mem_of_getElem? (i := 48) rfl))) (by decide) (t := .int) (t' := .boolean) (by decide) (by decide)))
      have y_packedCount := x4.other W2 (Or.inr (slot_ne (Or.inl (hw _ (List.mem_of_getElem? (i := 46) rfl))) (Or.inl (hw _ (List.mem_of_getElem? (i := 48) rfl))) (by decide) (t := .int) (t' := .boolean) (by decide) (by decide)))
      have y_holdsZero := x5.same W2
      have A2 := x6.other W2 (Ne.symm hat)
      have N2 := Fr.snoc X2 N0 ga
      have K2 : Keep h0 h2 [a, t] := (Keep.refl h0 [a, t]).wr W2 (Or.inl (List.mem_of_getElem? (i := 0) rfl))
      obtain ⟨fs, hr, hrun, hended, hW, hsame⟩ := X2.leave (v := some (.int (nar .boolean ((0 : Int32))))) (fun h => by rw [Bd.returns] at h; cases h)
      refine ⟨_, _, castTop (ef_6 m a v) ?_, hrun, hended, _, _, rfl, ?_, ⟨_, rfl⟩, hW, hsame.mono (by decide) (by decide)⟩
      · show Steps p.tables e below (s₁.setTop (mkF m 0 #[.val (.ref a), .val (.long v), .second, .unset] [])) _
        refine XS.lloadN X0.here hx rfl (hb hby d6_0) rfl ?_
        show Steps p.tables e below (s₁.setTop (mkF m 1 #[.val (.ref a), .val (.long v), .second, .unset] [(.long v)])) _
        refine XS.lconst X0.here hx rfl (hb hby d6_1) ?_
        show Steps p.tables e below (s₁.setTop (mkF m 2 #[.val (.ref a), .val (.long v), .second, .unset] [(.long (0 : Int64)), (.long v)])) _
        refine XS.lcmp X0.here hx rfl (hb hby d6_2) rfl ?_
        show Steps p.tables e below (s₁.setTop (mkF m 3 #[.val (.ref a), .val (.long v), .second, .unset] [(.int (lcmpW v (0 : Int64)))])) _
        refine XS.ifNo X0.here hx rfl (hb hby d6_3) rfl ((if0 _ _).trans (teq ((lw_eq _ _).mpr hv0)).2) ?_
        show Steps p.tables e below (s₁.setTop (mkF m 6 #[.val (.ref a), .val (.long v), .second, .unset] [])) _
        refine XS.aloadN X0.here hx rfl (hb hby d6_6) rfl rfl ?_
        show Steps p.tables e below (s₁.setTop (mkF m 7 #[.val (.ref a), .val (.long v), .second, .unset] [(.ref a)])) _
        refine st1 _ ?_
        show Steps p.tables e below (T1.setTop (mkF m 10 #[.val (.ref a), .val (.long v), .second, .unset] [(.int hz)])) _
        refine XS.ifYes X1.here hx rfl (pc0 := 10) (pc' := 17) rfl (hb hby d6_10) rfl ((if0 _ _).trans (feq hzz).2) (by decide) (by decide) ?_
        show Steps p.tables e below (T1.setTop (mkF m 17 #[.val (.ref a), .val (.long v), .second, .unset] [])) _
        refine XS.iconst X1.here hx rfl (hb hby d6_17) ?_
        show Steps p.tables e below (T1.setTop (mkF m 18 #[.val (.ref a), .val (.long v), .second, .unset] [(.int (0 : Int32))])) _
        refine XS.istoreN X1.here hx rfl (hb hby d6_18) rfl (l' := #[.val (.ref a), .val (.long v), .second, .val (.int (0 : Int32))]) rfl ?_
        show Steps p.tables e below (T1.setTop (mkF m 19 #[.val (.ref a), .val (.long v), .second, .val (.int (0 : Int32))] [])) _
        refine XS.aloadN X1.here hx rfl (hb hby d6_19) rfl rfl ?_
        show Steps p.tables e below (T1.setTop (mkF m 20 #[.val (.ref a), .val (.long v), .second, .val (.int (0 : Int32))] [(.ref a)])) _
        refine XS.iconst X1.here hx rfl (hb hby d6_20) ?_
        show Steps p.tables e below (T1.setTop (mkF m 21 #[.val (.ref a), .val (.long v), .second, .val (.int (0 : Int32))] [(.int (1 : Int32)), (.ref a)])) _
        refine st2 _ ?_
        show Steps p.tables e below (T2.setTop (mkF m 24 #[.val (.ref a), .val (.long v), .second, .val (.int (0 : Int32))] [])) _
        refine XS.goto X2.here hx rfl (pc0 := 24) (pc' := 33) rfl (hb hby d6_24) (by decide) (by decide) ?_
        show Steps p.tables e below (T2.setTop (mkF m 33 #[.val (.ref a), .val (.long v), .second, .val (.int (0 : Int32))] [])) _
        refine XS.iloadN X2.here hx rfl (hb hby d6_33) rfl ?_
        exact retN X2 hx (t := .boolean) Bd.returns (by simp) (hb hby d6_34) hr
      · exact ⟨_, vs, cnt, 1, rfl, N2, by rw [show (T2.setFrames fs).heap = h2 from e2]; exact ⟨y1, y_slots, y_bits, y_packedCount, y_holdsZero, A2⟩, by rw [hv0]; exact rr.zerox own_hs, by rw [show (T2.setFrames fs).heap = h2 from e2]; exact K2⟩
  · obtain ⟨cq3, q3, q3'⟩ := x1.cell
    obtain ⟨_, _, ⟨T3, L3, k3, n3⟩, -, X3, ⟨Lc3, hQ3, l3, y3, z3⟩, st3⟩ := X0.privateBack hx (y := (⟨"com/example/intact_keys/intactkeys/check/KeySet", "addToTable", "(J)Z"⟩ : MethodName)) hown (mvT hZ (hw _ (List.mem_of_getElem? (i := 54) rfl))) (mvT hZ (hw _ (List.mem_of_getElem? (i := 55) rfl))) (own_selp hZ (hw _ (List.mem_of_getElem? (i := 56) rfl)) (hw _ (List.mem_of_getElem? (i := 55) rfl)) (hw _ (List.mem_of_getElem? (i := 1) rfl)) (by decide)) (Cond.privateMethod_at (mvP hZ (hw _ (List.mem_of_getElem? (i := 56) rfl)) (args := #[]))) (mvT hZ (hw _ (List.mem_of_getElem? (i := 57) rfl))) (by decide) (backOf (W := 0) (rm7 l Z a0 hw [] a t v vs cnt hz d h0 n0 Z0 A rr.1.1 hf hcn ga gt) hZ (hw _ (List.mem_of_getElem? (i := 57) rfl)) (hw _ (List.mem_of_getElem? (i := 2) rfl)) (by decide) (by decide)) (g := (mkF m 29 #[.val (.ref a), .val (.long v), .second, .unset] [(.long v), (.ref a)])) rfl (by rw [hml]; rfl) (Steps.refl _) (a := a) (by rw [e0]; exact q3) q3' (argsL := [(.long v)]) (rest := []) (lenOf (show parseMethodDescriptor "(J)Z" = some ⟨[.long], (some .boolean)⟩ from by decide +kernel) rfl) rfl (by show 2 * 0 + _ ≤ _; exact Nat.le_of_eq rfl) (hb hby d6_29) (fun _ _ => ⟨rfl, e0, (by decide : 0 + 0 ≤ _), (by decide : 0 + 0 ≤ _)⟩)
    dsimp only [Pt.U, Pt.locs, Pt.cells, Pt.slots] at X3 l3 y3 z3 st3 hQ3
    subst l3 y3 z3
    obtain ⟨r, vs', cnt', rfl, hr01, N3q, A3, K3, hcase⟩ := hQ3
    have N3 := Fr.app N0 N3q
    obtain ⟨fs, hr, hrun, hended, hW, hsame⟩ := X3.leave (v := some (.int (nar .boolean (r)))) (fun h => by rw [Bd.returns] at h; cases h)
    refine ⟨_, _, castTop (ef_6 m a v) ?_, hrun, hended, _, _, rfl, ?_, ⟨_, rfl⟩, hW, hsame.mono (by decide) (by decide)⟩
    · show Steps p.tables e below (s₁.setTop (mkF m 0 #[.val (.ref a), .val (.long v), .second, .unset] [])) _
      refine XS.lloadN X0.here hx rfl (hb hby d6_0) rfl ?_
      show Steps p.tables e below (s₁.setTop (mkF m 1 #[.val (.ref a), .val (.long v), .second, .unset] [(.long v)])) _
      refine XS.lconst X0.here hx rfl (hb hby d6_1) ?_
      show Steps p.tables e below (s₁.setTop (mkF m 2 #[.val (.ref a), .val (.long v), .second, .unset] [(.long (0 : Int64)), (.long v)])) _
      refine XS.lcmp X0.here hx rfl (hb hby d6_2) rfl ?_
      show Steps p.tables e below (s₁.setTop (mkF m 3 #[.val (.ref a), .val (.long v), .second, .unset] [(.int (lcmpW v (0 : Int64)))])) _
      refine XS.ifYes X0.here hx rfl (pc0 := 3) (pc' := 27) rfl (hb hby d6_3) rfl ((if0 _ _).trans (feq (fun z => hv0 ((lw_eq _ _).mp z))).2) (by decide) (by decide) ?_
      show Steps p.tables e below (s₁.setTop (mkF m 27 #[.val (.ref a), .val (.long v), .second, .unset] [])) _
      refine XS.aloadN X0.here hx rfl (hb hby d6_27) rfl rfl ?_
      show Steps p.tables e below (s₁.setTop (mkF m 28 #[.val (.ref a), .val (.long v), .second, .unset] [(.ref a)])) _
      refine XS.lloadN X0.here hx rfl (hb hby d6_28) rfl ?_
      show Steps p.tables e below (s₁.setTop (mkF m 29 #[.val (.ref a), .val (.long v), .second, .unset] [(.long v), (.ref a)])) _
      refine st3.trans ?_
      show Steps p.tables e below (T3.setTop (mkF m 32 #[.val (.ref a), .val (.long v), .second, .unset] [(.int r)])) _
      refine XS.istoreN X3.here hx rfl (hb hby d6_32) rfl (l' := #[.val (.ref a), .val (.long v), .second, .val (.int r)]) rfl ?_
      show Steps p.tables e below (T3.setTop (mkF m 33 #[.val (.ref a), .val (.long v), .second, .val (.int r)] [])) _
      refine XS.iloadN X3.here hx rfl (hb hby d6_33) rfl ?_
      exact retN X3 hx (t := .boolean) Bd.returns (by simp) (hb hby d6_34) hr
    · refine ⟨_, vs', cnt', hz, rfl, N3, A3, ?_, K3⟩
      rcases hcase with ⟨c1, rfl, rfl⟩ | ⟨c1, rfl, rfl⟩
      · exact rr.hitx own_hs hv0 hf c1
      · exact rr.newx own_hs hv0 hd hf c1
theorem ef_4 (m : MethodId) (x0 : Addr) : entryFrame m #[(.ref x0)] 1 = mkF m 0 #[.val (.ref x0)] [] := by first | (simp [entryFrame, mkF, argsToLocals, Value.category]; done) | rfl
def Q4 (a : Addr) (h0 : Heap) (n0 : Nat) (vv : Option Value) (h : Heap) (L : List Loc) : Prop := vv = none ∧ Fr n0 L ∧ Keep h0 h [a]
set_option maxRecDepth 65536 in
set_option maxHeartbeats 40000000 in
theorem rm4 (l : Launch) (Z : State) (a0 : Array Value) (hw : ∀ d ∈ tables_1, d.before a0 Z = true) (ws' : List Jvm.Cond) (a : Addr) (h0 : Heap) (n0 : Nat) (Z0 : n0 ≤ h0.size) (EE : Exa Z h0 a "com/example/intact_keys/intactkeys/check/KeySet$Encoded") (u1 u2 u3 u4 : Value) (F_pages : Fld Z h0 a "com/example/intact_keys/intactkeys/check/KeySet$Encoded" "pages" "[[B" u1) (F_end : Fld Z h0 a "com/example/intact_keys/intactkeys/check/KeySet$Encoded" "end" "J" u2) (F_entries : Fld Z h0 a "com/example/intact_keys/intactkeys/check/KeySet$Encoded" "entries" "[J" u3) (F_bits : Fld Z h0 a "com/example/intact_keys/intactkeys/check/KeySet$Encoded" "bits" "I" u4) (ga : n0 ≤ a) :
    MetFree l (⟨"com/example/intact_keys/intactkeys/check/KeySet$Encoded", "<init>", "()V"⟩ : MethodName) (head1 (Jvm.Cond.code (⟨"com/example/intact_keys/intactkeys/check/KeySet$Encoded", "<init>", "()V"⟩ : MethodName) prog_49_method_1_code 1 none :: ws') ({ frames := 1, cells := 2, slots := 17, locals := 14 } : Room)) (fun aa U => aa = #[(.ref a)] ∧ Z.Warmed39 U.vm ∧ U.heap = h0) (fun _ _ _ _ _ => True) (fun _ U o U' => ∃ vv L, o = .returned vv ∧ Q4 a h0 n0 vv U'.heap L ∧ FrameEnd U o U' L (({ frames := 1, cells := 2, slots := 17, locals := 14 } : Room)).cells (({ frames := 1, cells := 2, slots := 17, locals := 14 } : Room)).slots) := by
  refine MetFree.of_bodySF (plainFor_of_name pn_E) hisR ?_
  intro p e s m args below meth c s₁ Bd hml0 hP hK
  obtain ⟨rfl, hZ, hh⟩ := hP
  have hx := Bd.exec
  have hby := Bd.bytes
  have hml : c.maxLocals = 1 := hml0
  have hown : s.vm.findClass "com/example/intact_keys/intactkeys/check/KeySet$Encoded" = some m.cls := findClass_of_methodNamed Bd.named
  have hnm := (name_of_methodNamed Bd.named Bd.method).1
  have X0 : Stand p l e ({ frames := 1, cells := 2, slots := 17, locals := 14 } : Room) s m #[(.ref a)] below meth c s₁ [] 0 0 := Stand.of_body Bd
  have e0 : s₁.heap = h0 := by rw [← hh, Bd.state]; rfl
  have N0 := Fr.nil n0
  obtain ⟨T1, X1, e1, st1⟩ := initO X0 hx hZ hown (hw _ (List.mem_of_getElem? (i := 25) rfl)) (hw _ (List.mem_of_getElem? (i := 7) rfl)) (hw _ (List.mem_of_getElem? (i := 8) rfl)) e0 (g := (mkF m 1 #[.val (.ref a)] [(.ref a)])) rfl (by rw [hml]; rfl) rfl (hb hby d4_1) (by decide) (W := 0) (by show 2 * 0 + _ ≤ _; exact Nat.le_of_eq rfl) (by decide)
  obtain ⟨T2, h2, k2, X2, e2, E2, A2, -, -, st2⟩ := newRA X1 hx hZ (C := "[B") (ty := .byte) hown rfl (hw _ (List.mem_of_getElem? (i := 26) rfl)) (hw _ (List.mem_of_getElem? (i := 27) rfl)) e1 (g := (mkF m 6 #[.val (.ref a)] [(.int (1 : Int32)), (.ref a)])) rfl (hb hby d4_6) rfl (by decide) (cap := 1) (by decide) (by decide) (by decide) (by decide) (ad := "[[B") rfl
  obtain ⟨b2, g2⟩ : ∃ z, z = h0.size := ⟨_, rfl⟩
  rw [← g2] at A2 st2
  have K2 : Keep h0 h2 [a] := (Keep.refl h0 [a]).ext E2
  obtain ⟨T3, h3, X3, e3, W3, st3⟩ := putF X2 hx hZ hown (host := "") (Or.inl (hw _ (List.mem_of_getElem? (i := 28) rfl))) Via.refl e2 (F_pages.ext E2) (EE.ext E2) (Or.inl (hw _ (List.mem_of_getElem? (i := 29) rfl))) (hw _ (List.mem_of_getElem? (i := 20) rfl)) (ty := (.array (.array .byte))) (by decide) rfl rfl (g := (mkF m 9 #[.val (.ref a)] [(.ref b2), (.ref a)])) rfl rfl (hb hby d4_9)
  have N3 := Fr.snoc X3 N0 ga
  have K3 : Keep h0 h3 [a] := K2.wr W3 (Or.inl (List.mem_of_getElem? (i := 0) rfl))
  obtain ⟨T4, h4, X4, e4, W4, st4⟩ := putF X3 hx hZ hown (host := "") (Or.inl (hw _ (List.mem_of_getElem? (i := 31) rfl))) Via.refl e3 ((F_end.ext E2).other W3 (Or.inr (slot_ne (Or.inl (hw _ (List.mem_of_getElem? (i := 32) rfl))) (Or.inl (hw _ (List.mem_of_getElem? (i := 29) rfl))) (by decide) (t := .long) (t' := (.array (.array .byte))) (by decide) (by decide)))) ((EE.ext E2).wr W3) (Or.inl (hw _ (List.mem_of_getElem? (i := 32) rfl))) (hw _ (List.mem_of_getElem? (i := 20) rfl)) (ty := .long) (by decide) rfl rfl (g := (mkF m 16 #[.val (.ref a)] [(.long (8 : Int64)), (.ref a)])) rfl rfl (hb hby d4_16)
  have N4 := Fr.snoc X4 N3 ga
  have K4 : Keep h0 h4 [a] := K3.wr W4 (Or.inl (List.mem_of_getElem? (i := 0) rfl))
  obtain ⟨T5, h5, k5, X5, e5, E5, A5, st5⟩ := newP X4 hx hZ (hw _ (List.mem_of_getElem? (i := 9) rfl)) e4 (g := (mkF m 22 #[.val (.ref a)] [(.int (16 : Int32)), (.ref a)])) rfl (hb hby d4_22) rfl (by decide) (cap := 16) (by decide) (by decide) (by decide) (by decide)
  obtain ⟨b5, g5⟩ : ∃ z, z = h4.size := ⟨_, rfl⟩
  rw [← g5] at A5 st5
  have K5 : Keep h0 h5 [a] := K4.ext E5
  obtain ⟨T6, h6, X6, e6, W6, st6⟩ := putF X5 hx hZ hown (host := "") (Or.inl (hw _ (List.mem_of_getElem? (i := 33) rfl))) Via.refl e5 ((((F_entries.ext E2).other W3 (Or.inr (slot_ne (Or.inl (hw _ (List.mem_of_getElem? (i := 34) rfl))) (Or.inl (hw _ (List.mem_of_getElem? (i := 29) rfl))) (by decide) (t := (.array .long)) (t' := (.array (.array .byte))) (by decide) (by decide)))).other W4 (Or.inr (slot_ne (Or.inl (hw _ (List.mem_of_getElem? (i := 34) rfl))) (Or.inl (hw _ (List.mem_of_getElem? (i := 32) rfl))) (by decide) (t := (.array .long)) (t' := .long) (by decide) (by decide)))).ext E5) ((((EE.ext E2).wr W3).wr W4).ext E5) (Or.inl (hw _ (List.mem_of_getElem? (i := 34) rfl))) (hw _ (List.mem_of_getElem? (i := 20) rfl)) (ty := (.array .long)) (by decide) rfl rfl (g := (mkF m 24 #[.val (.ref a)] [(.ref b5), (.ref a)])) rfl rfl (hb hby d4_24)
  have N6 := Fr.snoc X6 N4 ga
  have K6 : Keep h0 h6 [a] := K5.wr W6 (Or.inl (List.mem_of_getElem? (i := 0) rfl))
  have Z6 : n0 ≤ h6.size := Nat.le_trans Z0 K6.1
  obtain ⟨_, _, ⟨T7, L7, k7, n7⟩, -, X7, ⟨Lc7, hQ7, l7, y7, z7⟩, st7⟩ := Jvm.LawKit.callS X6 hx (y := (⟨"java/lang/Integer", "numberOfTrailingZeros", "(I)I"⟩ : MethodName)) hown (mvT hZ (hw _ (List.mem_of_getElem? (i := 35) rfl))) (mvT hZ (hw _ (List.mem_of_getElem? (i := 13) rfl))) (mvT hZ (hw _ (List.mem_of_getElem? (i := 14) rfl))) (mvT hZ (hw _ (List.mem_of_getElem? (i := 15) rfl))) (by decide) (backOf (W := 1) (rm3 l Z a0 hw [] 16 h6 n0 Z6) hZ (hw _ (List.mem_of_getElem? (i := 15) rfl)) (hw _ (List.mem_of_getElem? (i := 14) rfl)) (by decide) (by decide)) (g := (mkF m 30 #[.val (.ref a)] [(.int (16 : Int32)), (.ref a)])) rfl (by rw [hml]; rfl) (argsL := [(.int (16 : Int32))]) (rest := [(.ref a)]) (lenOf (show parseMethodDescriptor "(I)I" = some ⟨[.int], (some .int)⟩ from by decide +kernel) rfl) rfl (by show 2 * 0 + _ ≤ _; exact Nat.le_of_eq rfl) (hb hby d4_30) (fun _ _ => ⟨rfl, e6, (by decide : 0 + 1 + 1 + 0 ≤ _), (by decide : 0 + 1 + 16 + 0 ≤ _)⟩)
  dsimp only [Pt.U, Pt.locs, Pt.cells, Pt.slots] at X7 l7 y7 z7 st7 hQ7
  subst l7 y7 z7
  obtain ⟨rfl, N7q, e7⟩ := hQ7
  have N7 := Fr.app N6 N7q
  obtain ⟨T8, h8, X8, e8, W8, st8⟩ := putF X7 hx hZ hown (host := "") (Or.inl (hw _ (List.mem_of_getElem? (i := 36) rfl))) Via.refl e7 (((((F_bits.ext E2).other W3 (Or.inr (slot_ne (Or.inl (hw _ (List.mem_of_getElem? (i := 37) rfl))) (Or.inl (hw _ (List.mem_of_getElem? (i := 29) rfl))) (by decide) (t := .int) (t' := (.array (.array .byte))) (by decide) (by decide)))).other W4 (Or.inr (slot_ne (Or.inl (hw _ (List.mem_of_getElem? (i := 37) rfl))) (Or.inl (hw _ (List.mem_of_getElem? (i := 32) rfl))) (by decide) (t := .int) (t' := .long) (by decide) (by decide)))).ext E5).other W6 (Or.inr (slot_ne (Or.inl (hw _ (List.mem_of_getElem? (i := 37) rfl))) (Or.inl (hw _ (List.mem_of_getElem? (i := 34) rfl))) (by decide) (t := .int) (t' := (.array .long)) (by decide) (by decide)))) (((((EE.ext E2).wr W3).wr W4).ext E5).wr W6) (Or.inl (hw _ (List.mem_of_getElem? (i := 37) rfl))) (hw _ (List.mem_of_getElem? (i := 20) rfl)) (ty := .int) (by decide) rfl rfl (g := (mkF m 33 #[.val (.ref a)] [(.int (own_ntz_f0 16)), (.ref a)])) rfl rfl (hb hby d4_33)
  have N8 := Fr.snoc X8 N7 ga
  have K8 : Keep h0 h8 [a] := K6.wr W8 (Or.inl (List.mem_of_getElem? (i := 0) rfl))
  obtain ⟨fs, hr, hrun, hended, hW, hsame⟩ := X8.leave (v := none) (fun _ => rfl)
  refine ⟨_, _, castTop (ef_4 m a) ?_, hrun, hended, _, _, rfl, ?_, ⟨_, rfl⟩, hW, hsame.mono (by decide) (by decide)⟩
  · show Steps p.tables e below (s₁.setTop (mkF m 0 #[.val (.ref a)] [])) _
    refine XS.aloadN X0.here hx rfl (hb hby d4_0) rfl rfl ?_
    show Steps p.tables e below (s₁.setTop (mkF m 1 #[.val (.ref a)] [(.ref a)])) _
    refine st1 _ ?_
    show Steps p.tables e below (T1.setTop (mkF m 4 #[.val (.ref a)] [])) _
    refine XS.aloadN X1.here hx rfl (hb hby d4_4) rfl rfl ?_
    show Steps p.tables e below (T1.setTop (mkF m 5 #[.val (.ref a)] [(.ref a)])) _
    refine XS.iconst X1.here hx rfl (hb hby d4_5) ?_
    show Steps p.tables e below (T1.setTop (mkF m 6 #[.val (.ref a)] [(.int (1 : Int32)), (.ref a)])) _
    refine st2 _ ?_
    show Steps p.tables e below (T2.setTop (mkF m 9 #[.val (.ref a)] [(.ref b2), (.ref a)])) _
    refine st3 _ ?_
    show Steps p.tables e below (T3.setTop (mkF m 12 #[.val (.ref a)] [])) _
    refine XS.aloadN X3.here hx rfl (hb hby d4_12) rfl rfl ?_
    show Steps p.tables e below (T3.setTop (mkF m 13 #[.val (.ref a)] [(.ref a)])) _
    refine X3.ldc2Long hx hown (mvT hZ (hw _ (List.mem_of_getElem? (i := 30) rfl))) (g := (mkF m 13 #[.val (.ref a)] [(.ref a)])) rfl (hb hby d4_13) _ ?_
    show Steps p.tables e below (T3.setTop (mkF m 16 #[.val (.ref a)] [(.long (8 : Int64)), (.ref a)])) _
    refine st4 _ ?_
    show Steps p.tables e below (T4.setTop (mkF m 19 #[.val (.ref a)] [])) _
    refine XS.aloadN X4.here hx rfl (hb hby d4_19) rfl rfl ?_
    show Steps p.tables e below (T4.setTop (mkF m 20 #[.val (.ref a)] [(.ref a)])) _
    refine XS.bipush X4.here hx rfl (hb hby d4_20) ?_
    show Steps p.tables e below (T4.setTop (mkF m 22 #[.val (.ref a)] [(.int (16 : Int32)), (.ref a)])) _
    refine st5 _ ?_
    show Steps p.tables e below (T5.setTop (mkF m 24 #[.val (.ref a)] [(.ref b5), (.ref a)])) _
    refine st6 _ ?_
    show Steps p.tables e below (T6.setTop (mkF m 27 #[.val (.ref a)] [])) _
    refine XS.aloadN X6.here hx rfl (hb hby d4_27) rfl rfl ?_
    show Steps p.tables e below (T6.setTop (mkF m 28 #[.val (.ref a)] [(.ref a)])) _
    refine XS.bipush X6.here hx rfl (hb hby d4_28) ?_
    show Steps p.tables e below (T6.setTop (mkF m 30 #[.val (.ref a)] [(.int (16 : Int32)), (.ref a)])) _
    refine st7 _ ?_
    show Steps p.tables e below (T7.setTop (mkF m 33 #[.val (.ref a)] [(.int (own_ntz_f0 16)), (.ref a)])) _
    refine st8 _ ?_
    show Steps p.tables e below (T8.setTop (mkF m 36 #[.val (.ref a)] [])) _
    exact X8.returnOut hx Bd.returns (hb hby d4_36) hr
  · exact ⟨rfl, N8, by rw [show (T8.setFrames fs).heap = h8 from e8]; exact K8⟩
def Q1 (Z : State) (a : Addr) (h0 : Heap) (n0 : Nat) (vv : Option Value) (h : Heap) (L : List Loc) : Prop := vv = none ∧ Fr n0 L ∧ Keep h0 h [a] ∧ ∃ t, n0 ≤ t ∧ own_K Z h a t (List.replicate 16 0) 0 0
set_option maxRecDepth 65536 in
set_option maxHeartbeats 40000000 in
theorem rm1 (l : Launch) (Z : State) (a0 : Array Value) (hw : ∀ d ∈ tables_1, d.before a0 Z = true) (ws' : List Jvm.Cond) (a : Addr) (h0 : Heap) (n0 : Nat) (Z0 : n0 ≤ h0.size) (EE : Exa Z h0 a "com/example/intact_keys/intactkeys/check/KeySet") (u1 u2 u5 : Value) (F_slots : Fld Z h0 a "com/example/intact_keys/intactkeys/check/KeySet" "slots" "[J" u1) (F_bits : Fld Z h0 a "com/example/intact_keys/intactkeys/check/KeySet" "bits" "I" u2) (F_packedCount : Fld Z h0 a "com/example/intact_keys/intactkeys/check/KeySet" "packedCount" "I" (.int 0)) (F_holdsZero : Fld Z h0 a "com/example/intact_keys/intactkeys/check/KeySet" "holdsZero" "Z" (.int 0)) (F_unpacked : Fld Z h0 a "com/example/intact_keys/intactkeys/check/KeySet" "unpacked" "Lcom/example/intact_keys/intactkeys/check/KeySet$Encoded;" u5) (ga : n0 ≤ a) :
    MetFree l (⟨"com/example/intact_keys/intactkeys/check/KeySet", "<init>", "()V"⟩ : MethodName) (head1 (Jvm.Cond.code (⟨"com/example/intact_keys/intactkeys/check/KeySet", "<init>", "()V"⟩ : MethodName) prog_48_method_1_code 1 none :: ws') ({ frames := 2, cells := 4, slots := 39, locals := 28 } : Room)) (fun aa U => aa = #[(.ref a)] ∧ Z.Warmed39 U.vm ∧ U.heap = h0) (fun _ _ _ _ _ => True) (fun _ U o U' => ∃ vv L, o = .returned vv ∧ Q1 Z a h0 n0 vv U'.heap L ∧ FrameEnd U o U' L (({ frames := 2, cells := 4, slots := 39, locals := 28 } : Room)).cells (({ frames := 2, cells := 4, slots := 39, locals := 28 } : Room)).slots) := by
  refine MetFree.of_bodySF (plainFor_of_name pn_K) hisR ?_
  intro p e s m args below meth c s₁ Bd hml0 hP hK
  obtain ⟨rfl, hZ, hh⟩ := hP
  have hx := Bd.exec
  have hby := Bd.bytes
  have hml : c.maxLocals = 1 := hml0
  have hown : s.vm.findClass "com/example/intact_keys/intactkeys/check/KeySet" = some m.cls := findClass_of_methodNamed Bd.named
  have hnm := (name_of_methodNamed Bd.named Bd.method).1
  have X0 : Stand p l e ({ frames := 2, cells := 4, slots := 39, locals := 28 } : Room) s m #[(.ref a)] below meth c s₁ [] 0 0 := Stand.of_body Bd
  have e0 : s₁.heap = h0 := by rw [← hh, Bd.state]; rfl
  have N0 := Fr.nil n0
  obtain ⟨T1, X1, e1, st1⟩ := initO X0 hx hZ hown (hw _ (List.mem_of_getElem? (i := 6) rfl)) (hw _ (List.mem_of_getElem? (i := 7) rfl)) (hw _ (List.mem_of_getElem? (i := 8) rfl)) e0 (g := (mkF m 1 #[.val (.ref a)] [(.ref a)])) rfl (by rw [hml]; rfl) rfl (hb hby d1_1) (by decide) (W := 0) (by show 2 * 0 + _ ≤ _; exact Nat.le_of_eq rfl) (by decide)
  obtain ⟨T2, h2, k2, X2, e2, E2, A2, st2⟩ := newP X1 hx hZ (hw _ (List.mem_of_getElem? (i := 9) rfl)) e1 (g := (mkF m 7 #[.val (.ref a)] [(.int (16 : Int32)), (.ref a)])) rfl (hb hby d1_7) rfl (by decide) (cap := 16) (by decide) (by decide) (by decide) (by decide)
  obtain ⟨t, g2⟩ : ∃ z, z = h0.size := ⟨_, rfl⟩
  rw [← g2] at A2 st2
  have K2 : Keep h0 h2 [a] := (Keep.refl h0 [a]).ext E2
  have J2 := own_J.new A2
  have gt : n0 ≤ t := Nat.le_trans Z0 (Nat.le_of_eq g2.symm)
  have hta : t ≠ a := Nat.ne_of_gt (by rw [g2]; exact EE.lt)
  obtain ⟨T3, h3, X3, e3, W3, st3⟩ := putF X2 hx hZ hown (host := "") (Or.inl (hw _ (List.mem_of_getElem? (i := 10) rfl))) Via.refl e2 (F_slots.ext E2) (EE.ext E2) (Or.inl (hw _ (List.mem_of_getElem? (i := 11) rfl))) (hw _ (List.mem_of_getElem? (i := 1) rfl)) (ty := (.array .long)) (by decide) rfl rfl (g := (mkF m 9 #[.val (.ref a)] [(.ref t), (.ref a)])) rfl rfl (hb hby d1_9)
  have N3 := Fr.snoc X3 N0 ga
  have K3 : Keep h0 h3 [a] := K2.wr W3 (Or.inl (List.mem_of_getElem? (i := 0) rfl))
  have J3 := J2.other W3 hta
  have Z3 : n0 ≤ h3.size := Nat.le_trans Z0 K3.1
  obtain ⟨_, _, ⟨T4, L4, k4, n4⟩, -, X4, ⟨Lc4, hQ4, l4, y4, z4⟩, st4⟩ := Jvm.LawKit.callS X3 hx (y := (⟨"java/lang/Integer", "numberOfTrailingZeros", "(I)I"⟩ : MethodName)) hown (mvT hZ (hw _ (List.mem_of_getElem? (i := 12) rfl))) (mvT hZ (hw _ (List.mem_of_getElem? (i := 13) rfl))) (mvT hZ (hw _ (List.mem_of_getElem? (i := 14) rfl))) (mvT hZ (hw _ (List.mem_of_getElem? (i := 15) rfl))) (by decide) (backOf (W := 1) (rm3 l Z a0 hw [] 16 h3 n0 Z3) hZ (hw _ (List.mem_of_getElem? (i := 15) rfl)) (hw _ (List.mem_of_getElem? (i := 14) rfl)) (by decide) (by decide)) (g := (mkF m 15 #[.val (.ref a)] [(.int (16 : Int32)), (.ref a)])) rfl (by rw [hml]; rfl) (argsL := [(.int (16 : Int32))]) (rest := [(.ref a)]) (lenOf (show parseMethodDescriptor "(I)I" = some ⟨[.int], (some .int)⟩ from by decide +kernel) rfl) rfl (by show 2 * 0 + _ ≤ _; exact Nat.le_of_eq rfl) (hb hby d1_15) (fun _ _ => ⟨rfl, e3, (by decide : 0 + 1 + 0 ≤ _), (by decide : 0 + 16 + 0 ≤ _)⟩)
  dsimp only [Pt.U, Pt.locs, Pt.cells, Pt.slots] at X4 l4 y4 z4 st4 hQ4
  subst l4 y4 z4
  obtain ⟨rfl, N4q, e4⟩ := hQ4
  have N4 := Fr.app N3 N4q
  obtain ⟨T5, h5, X5, e5, W5, st5⟩ := putF X4 hx hZ hown (host := "") (Or.inl (hw _ (List.mem_of_getElem? (i := 17) rfl))) Via.refl e4 ((F_bits.ext E2).other W3 (Or.inr (slot_ne (Or.inl (hw _ (List.mem_of_getElem? (i := 18) rfl))) (Or.inl (hw _ (List.mem_of_getElem? (i := 11) rfl))) (by decide) (t := .int) (t' := (.array .long)) (by decide) (by decide)))) ((EE.ext E2).wr W3) (Or.inl (hw _ (List.mem_of_getElem? (i := 18) rfl))) (hw _ (List.mem_of_getElem? (i := 1) rfl)) (ty := .int) (by decide) rfl rfl (g := (mkF m 18 #[.val (.ref a)] [(.int (own_ntz_f0 16)), (.ref a)])) rfl rfl (hb hby d1_18)
  have N5 := Fr.snoc X5 N4 ga
  have K5 : Keep h0 h5 [a] := K3.wr W5 (Or.inl (List.mem_of_getElem? (i := 0) rfl))
  have J5 := J3.other W5 hta
  obtain ⟨T6, h6, X6, e6, E6, A6, D6, -, st6⟩ := newO X5 hx hZ hown (hw _ (List.mem_of_getElem? (i := 19) rfl)) (hw _ (List.mem_of_getElem? (i := 20) rfl)) (hw _ (List.mem_of_getElem? (i := 21) rfl)) e5 (g := (mkF m 22 #[.val (.ref a)] [(.ref a)])) rfl (hb hby d1_22) (by decide) (by decide)
  obtain ⟨en, g6⟩ : ∃ z, z = h5.size := ⟨_, rfl⟩
  rw [← g6] at A6 D6 st6
  have K6 : Keep h0 h6 [a] := K5.ext E6
  have J6 := J5.ext E6
  have gen : n0 ≤ en := Nat.le_trans (Nat.le_trans Z0 K5.1) (Nat.le_of_eq g6.symm)
  have szen : h0.size ≤ en := Nat.le_trans K5.1 (Nat.le_of_eq g6.symm)
  have Z6 : n0 ≤ h6.size := Nat.le_trans Z0 K6.1
  have hea : a ≠ en := Nat.ne_of_lt (Nat.lt_of_lt_of_le EE.lt szen)
  have het : t ≠ en := Nat.ne_of_lt (by rw [g6]; exact J5.lt)
  obtain ⟨_, _, ⟨T7, L7, k7, n7⟩, -, X7, ⟨Lc7, hQ7, l7, y7, z7⟩, st7⟩ := own_specialRef X6 hx hZ (y := (⟨"com/example/intact_keys/intactkeys/check/KeySet$Encoded", "<init>", "()V"⟩ : MethodName)) rfl hown (hw _ (List.mem_of_getElem? (i := 22) rfl)) (mvT hZ (hw _ (List.mem_of_getElem? (i := 23) rfl))) (mvT hZ (hw _ (List.mem_of_getElem? (i := 24) rfl))) (by decide) (backOf (W := 2) (rm4 l Z a0 hw [] en h6 n0 Z6 A6 _ _ _ _ (D6 (Or.inl (hw _ (List.mem_of_getElem? (i := 29) rfl))) (ty := (.array (.array .byte))) (by decide)) (D6 (Or.inl (hw _ (List.mem_of_getElem? (i := 32) rfl))) (ty := .long) (by decide)) (D6 (Or.inl (hw _ (List.mem_of_getElem? (i := 34) rfl))) (ty := (.array .long)) (by decide)) (D6 (Or.inl (hw _ (List.mem_of_getElem? (i := 37) rfl))) (ty := .int) (by decide)) gen) hZ (hw _ (List.mem_of_getElem? (i := 24) rfl)) (hw _ (List.mem_of_getElem? (i := 21) rfl)) (by decide) (by decide)) (g := (mkF m 26 #[.val (.ref a)] [(.ref en), (.ref en), (.ref a)])) rfl (by rw [hml]; rfl) (Steps.refl _) (a := en) (argsL := []) (rest := [(.ref en), (.ref a)]) (lenOf (show parseMethodDescriptor "()V" = some ⟨[], none⟩ from by decide +kernel) rfl) rfl (by show 2 * 0 + _ ≤ _; exact Nat.le_of_eq rfl) (hb hby d1_26) (fun _ _ => ⟨rfl, e6, (by decide : 0 + 1 + 1 + 2 ≤ _), (by decide : 0 + 16 + 6 + 17 ≤ _)⟩)
  dsimp only [Pt.U, Pt.locs, Pt.cells, Pt.slots] at X7 l7 y7 z7 st7 hQ7
  subst l7 y7 z7
  obtain ⟨rfl, N7q, K7q⟩ := hQ7
  have N7 := Fr.app N5 N7q
  have nae : a ∉ [en] := ninS hea nin0
  have J7 := J6.keep K7q (ninS het nin0)
  have K7 : Keep h0 T7.heap [a] := K6.trans K7q (allS (Or.inr szen) all0)
  obtain ⟨T8, h8, X8, e8, W8, st8⟩ := putF X7 hx hZ hown (host := "") (Or.inl (hw _ (List.mem_of_getElem? (i := 38) rfl))) Via.refl rfl (((((F_unpacked.ext E2).other W3 (Or.inr (slot_ne (Or.inr (hw _ (List.mem_of_getElem? (i := 39) rfl))) (Or.inl (hw _ (List.mem_of_getElem? (i := 11) rfl))) (by decide) (t := (.object "com/example/intact_keys/intactkeys/check/KeySet$Encoded")) (t' := (.array .long)) (by decide) (by decide)))).other W5 (Or.inr (slot_ne (Or.inr (hw _ (List.mem_of_getElem? (i := 39) rfl))) (Or.inl (hw _ (List.mem_of_getElem? (i := 18) rfl))) (by decide) (t := (.object "com/example/intact_keys/intactkeys/check/KeySet$Encoded")) (t' := .int) (by decide) (by decide)))).ext E6).keep K7q nae) (((((EE.ext E2).wr W3).wr W5).ext E6).keep K7q) (Or.inr ⟨(hw _ (List.mem_of_getElem? (i := 39) rfl)), rfl, hnm⟩) (hw _ (List.mem_of_getElem? (i := 1) rfl)) (ty := (.object "com/example/intact_keys/intactkeys/check/KeySet$Encoded")) (by decide) rfl rfl (g := (mkF m 29 #[.val (.ref a)] [(.ref en), (.ref a)])) rfl rfl (hb hby d1_29)
  have N8 := Fr.snoc X8 N7 ga
  have K8 : Keep h0 h8 [a] := K7.wr W8 (Or.inl (List.mem_of_getElem? (i := 0) rfl))
  have J8 := J7.other W8 hta
  obtain ⟨fs, hr, hrun, hended, hW, hsame⟩ := X8.leave (v := none) (fun _ => rfl)
  refine ⟨_, _, castTop (ef_4 m a) ?_, hrun, hended, _, _, rfl, ?_, ⟨_, rfl⟩, hW, hsame.mono (by decide) (by decide)⟩
  · show Steps p.tables e below (s₁.setTop (mkF m 0 #[.val (.ref a)] [])) _
    refine XS.aloadN X0.here hx rfl (hb hby d1_0) rfl rfl ?_
    show Steps p.tables e below (s₁.setTop (mkF m 1 #[.val (.ref a)] [(.ref a)])) _
    refine st1 _ ?_
    show Steps p.tables e below (T1.setTop (mkF m 4 #[.val (.ref a)] [])) _
    refine XS.aloadN X1.here hx rfl (hb hby d1_4) rfl rfl ?_
    show Steps p.tables e below (T1.setTop (mkF m 5 #[.val (.ref a)] [(.ref a)])) _
    refine XS.bipush X1.here hx rfl (hb hby d1_5) ?_
    show Steps p.tables e below (T1.setTop (mkF m 7 #[.val (.ref a)] [(.int (16 : Int32)), (.ref a)])) _
    refine st2 _ ?_
    show Steps p.tables e below (T2.setTop (mkF m 9 #[.val (.ref a)] [(.ref t), (.ref a)])) _
    refine st3 _ ?_
    show Steps p.tables e below (T3.setTop (mkF m 12 #[.val (.ref a)] [])) _
    refine XS.aloadN X3.here hx rfl (hb hby d1_12) rfl rfl ?_
    show Steps p.tables e below (T3.setTop (mkF m 13 #[.val (.ref a)] [(.ref a)])) _
    refine XS.bipush X3.here hx rfl (hb hby d1_13) ?_
    show Steps p.tables e below (T3.setTop (mkF m 15 #[.val (.ref a)] [(.int (16 : Int32)), (.ref a)])) _
    refine st4 _ ?_
    show Steps p.tables e below (T4.setTop (mkF m 18 #[.val (.ref a)] [(.int (own_ntz_f0 16)), (.ref a)])) _
    refine st5 _ ?_
    show Steps p.tables e below (T5.setTop (mkF m 21 #[.val (.ref a)] [])) _
    refine XS.aloadN X5.here hx rfl (hb hby d1_21) rfl rfl ?_
    show Steps p.tables e below (T5.setTop (mkF m 22 #[.val (.ref a)] [(.ref a)])) _
    refine st6 _ ?_
    show Steps p.tables e below (T6.setTop (mkF m 25 #[.val (.ref a)] [(.ref en), (.ref a)])) _
    refine XS.dup X6.here hx rfl (hb hby d1_25) rfl rfl ?_
    show Steps p.tables e below (T6.setTop (mkF m 26 #[.val (.ref a)] [(.ref en), (.ref en), (.ref a)])) _
    refine st7.trans ?_
    show Steps p.tables e below (T7.setTop (mkF m 29 #[.val (.ref a)] [(.ref en), (.ref a)])) _
    refine st8 _ ?_
    show Steps p.tables e below (T8.setTop (mkF m 32 #[.val (.ref a)] [])) _
    exact X8.returnOut hx Bd.returns (hb hby d1_32) hr
  · have fb := ((((((F_bits.ext E2).other W3 (Or.inr (slot_ne (Or.inl (hw _ (List.mem_of_getElem? (i := 18) rfl))) (Or.inl (hw _ (List.mem_of_getElem? (i := 11) rfl))) (by decide) (t := .int) (t' := (.array .long)) (by decide) (by decide)))).same W5).ext E6).keep K7q nae).other W8 (Or.inr (slot_ne (Or.inl (hw _ (List.mem_of_getElem? (i := 18) rfl))) (Or.inr (hw _ (List.mem_of_getElem? (i := 39) rfl))) (by decide) (t := .int) (t' := (.object "com/example/intact_keys/intactkeys/check/KeySet$Encoded")) (by decide) (by decide))))
    rw [own_ntz16] at fb
    refine ⟨rfl, N8, ?_, t, gt, ?_⟩
    · rw [show (T8.setFrames fs).heap = h8 from e8]; exact K8
    · rw [show (T8.setFrames fs).heap = h8 from e8]; exact ⟨((((((EE.ext E2).wr W3).wr W5).ext E6).keep K7q).wr W8), ((((((F_slots.ext E2).same W3).other W5 (Or.inr (slot_ne (Or.inl (hw _ (List.mem_of_getElem? (i := 11) rfl))) (Or.inl (hw _ (List.mem_of_getElem? (i := 18) rfl))) (by decide) (t := (.array .long)) (t' := .int) (by decide) (by decide)))).ext E6).keep K7q nae).other W8 (Or.inr (slot_ne (Or.inl (hw _ (List.mem_of_getElem? (i := 11) rfl))) (Or.inr (hw _ (List.mem_of_getElem? (i := 39) rfl))) (by decide) (t := (.array .long)) (t' := (.object "com/example/intact_keys/intactkeys/check/KeySet$Encoded")) (by decide) (by decide)))), fb, ((((((F_packedCount.ext E2).other W3 (Or.inr (slot_ne (Or.inl (hw _ (List.mem_of_getElem? (i := 46) rfl))) (Or.inl (hw _ (List.mem_of_getElem? (i := 11) rfl))) (by decide) (t := .int) (t' := (.array .long)) (by decide) (by decide)))).other W5 (Or.inr (slot_ne (Or.inl (hw _ (List.mem_of_getElem? (i := 46) rfl))) (Or.inl (hw _ (List.mem_of_getElem? (i := 18) rfl))) (by decide) (t := .int) (t' := .int) (by decide) (by decide)))).ext E6).keep K7q nae).other W8 (Or.inr (slot_ne (Or.inl (hw _ (List.mem_of_getElem? (i := 46) rfl))) (Or.inr (hw _ (List.mem_of_getElem? (i := 39) rfl))) (by decide) (t := .int) (t' := (.object "com/example/intact_keys/intactkeys/check/KeySet$Encoded")) (by decide) (by decide)))), ((((((F_holdsZero.ext E2).other W3 (Or.inr (slot_ne (Or.inl (hw _ (List.mem_of_getElem? (i := 48) rfl))) (Or.inl (hw _ (List.mem_of_getElem? (i := 11) rfl))) (by decide) (t := .boolean) (t' := (.array .long)) (by decide) (by decide)))).other W5 (Or.inr (slot_ne (Or.inl (hw _ (List.mem_of_getElem? (i := 48) rfl))) (Or.inl (hw _ (List.mem_of_getElem? (i := 18) rfl))) (by decide) (t := .boolean) (t' := .int) (by decide) (by decide)))).ext E6).keep K7q nae).other W8 (Or.inr (slot_ne (Or.inl (hw _ (List.mem_of_getElem? (i := 48) rfl))) (Or.inr (hw _ (List.mem_of_getElem? (i := 39) rfl))) (by decide) (t := .boolean) (t' := (.object "com/example/intact_keys/intactkeys/check/KeySet$Encoded")) (by decide) (by decide)))), J8⟩
def own_P67 (o6 o7 : Slot) : Prop := (o6 = .unset ∧ o7 = .unset) ∨ ∃ y : Int64, o6 = .val (.long y) ∧ o7 = .second
theorem own_os67 {s0 s1 s2 s3 s4 s5 o6 o7 : Slot} {v : Int64} (h : own_P67 o6 o7) : storeLocals #[s0, s1, s2, s3, s4, s5, o6, o7] 6 (.long v) = some #[s0, s1, s2, s3, s4, s5, .val (.long v), .second] := by
  rcases h with ⟨rfl, rfl⟩ | ⟨y, rfl, rfl⟩ <;> rfl
theorem own_nz_take {vs : List Int64} {i : Nat} (hi : i < vs.length) : own_nz (vs.take (i + 1)) = own_nz (vs.take i) ++ if vs.getD i 0 = 0 then [] else [vs.getD i 0] := by
  have e1 : vs.take (i + 1) = vs.take i ++ [vs.getD i 0] := by
    rw [List.take_add_one]; simp [List.getD, hi]
  unfold own_nz
  rw [e1, List.filter_append]
  congr 1
  by_cases q : vs.getD i 0 = 0
  · rw [if_pos q, q]; rfl
  · rw [if_neg q, List.filter_cons, if_pos (by simpa using q)]; rfl
theorem own_nz_le (vs : List Int64) (i : Nat) : (own_nz (vs.take i)).length ≤ (own_nz vs).length := by
  unfold own_nz
  exact (List.Sublist.filter _ (List.take_sublist i vs)).length_le
theorem own_fill {A : List Int64} {q M : Nat} {x : Int64} (h : A.length < M) : (A ++ List.replicate (M - A.length) 0).set A.length x = (A ++ [x]) ++ List.replicate (M - (A ++ [x]).length) 0 := by
  obtain ⟨k, hk⟩ : ∃ k, M - A.length = k + 1 := ⟨M - A.length - 1, by omega⟩
  have e2 : M - (A ++ [x]).length = k := by simp; omega
  rw [hk, e2, List.set_append_right _ _ (Nat.le_refl _), Nat.sub_self, List.replicate_succ]
  simp
def own_M (cnt : Nat) (hz : Int32) : Nat := if hz = 0 then cnt else cnt + 1
set_option maxRecDepth 65536 in
set_option maxHeartbeats 40000000 in
theorem own_pv0 {p : Program} {l : Launch} {e : Env} {R : Room} {s : State} {m : MethodId} {args : Array Value} {below : List Frame} {meth : Method} {c : Code} {T0 : State} {locs : List Loc} {cells slots : Nat} {Z : State} {a0 : Array Value} {h0 : Heap} (a : Addr) (cnt : Nat) (hz : Int32)
    (X0 : Stand p l e R s m args below meth c T0 locs cells slots) (hx : p.tables.exec = Jvm.exec) (hZ : Z.Warmed39 s.vm) (hw : ∀ d ∈ tables_1, d.before a0 Z = true) (hby : c.code = prog_48_method_8_code) (hown : s.vm.findClass "com/example/intact_keys/intactkeys/check/KeySet" = some m.cls) (e0 : T0.heap = h0) (x4 : Fld Z h0 a "com/example/intact_keys/intactkeys/check/KeySet" "packedCount" "I" (.int cnt.toInt32)) (x5 : Fld Z h0 a "com/example/intact_keys/intactkeys/check/KeySet" "holdsZero" "Z" (.int hz)) :
    ∃ T', Stand p l e R s m args below meth c T' locs cells slots ∧ T'.heap = h0 ∧ ∀ target, Steps p.tables e below (T'.setTop (mkF m 17 #[.val (.ref a), .unset, .unset, .unset, .unset, .unset, .unset, .unset] [(.int (own_M cnt hz).toInt32)])) target → Steps p.tables e below (T0.setTop (mkF m 0 #[.val (.ref a), .unset, .unset, .unset, .unset, .unset, .unset, .unset] [])) target := by
  obtain ⟨T1, X1, e1, st1⟩ := getF X0 hx hZ hown (host := "") (Or.inl (hw _ (List.mem_of_getElem? (i := 45) rfl))) Via.refl e0 x4 (g := (mkF m 1 #[.val (.ref a), .unset, .unset, .unset, .unset, .unset, .unset, .unset] [(.ref a)])) rfl rfl (hb hby d5_1)
  obtain ⟨T2, X2, e2, st2⟩ := getF X1 hx hZ hown (host := "") (Or.inl (hw _ (List.mem_of_getElem? (i := 47) rfl))) Via.refl e1 x5 (g := (mkF m 5 #[.val (.ref a), .unset, .unset, .unset, .unset, .unset, .unset, .unset] [(.ref a), (.int cnt.toInt32)])) rfl rfl (hb hby d5_5)
  by_cases hq : hz = 0
  · refine ⟨T2, X2, e2, fun target kt => ?_⟩
    have hm : own_M cnt hz = cnt := if_pos hq
    rw [hm] at kt
    show Steps p.tables e below (T0.setTop (mkF m 0 #[.val (.ref a), .unset, .unset, .unset, .unset, .unset, .unset, .unset] [])) _
    refine XS.aloadN X0.here hx rfl (hb hby d5_0) rfl rfl ?_
    show Steps p.tables e below (T0.setTop (mkF m 1 #[.val (.ref a), .unset, .unset, .unset, .unset, .unset, .unset, .unset] [(.ref a)])) _
    refine st1 _ ?_
    show Steps p.tables e below (T1.setTop (mkF m 4 #[.val (.ref a), .unset, .unset, .unset, .unset, .unset, .unset, .unset] [(.int cnt.toInt32)])) _
    refine XS.aloadN X1.here hx rfl (hb hby d5_4) rfl rfl ?_
    show Steps p.tables e below (T1.setTop (mkF m 5 #[.val (.ref a), .unset, .unset, .unset, .unset, .unset, .unset, .unset] [(.ref a), (.int cnt.toInt32)])) _
    refine st2 _ ?_
    show Steps p.tables e below (T2.setTop (mkF m 8 #[.val (.ref a), .unset, .unset, .unset, .unset, .unset, .unset, .unset] [(.int hz), (.int cnt.toInt32)])) _
    refine XS.ifYes X2.here hx rfl (pc0 := 8) (pc' := 15) rfl (hb hby d5_8) rfl ((if0 _ _).trans (teq hq).1) (by decide) (by decide) ?_
    show Steps p.tables e below (T2.setTop (mkF m 15 #[.val (.ref a), .unset, .unset, .unset, .unset, .unset, .unset, .unset] [(.int cnt.toInt32)])) _
    refine XS.iconst X2.here hx rfl (hb hby d5_15) ?_
    show Steps p.tables e below (T2.setTop (mkF m 16 #[.val (.ref a), .unset, .unset, .unset, .unset, .unset, .unset, .unset] [(.int (0 : Int32)), (.int cnt.toInt32)])) _
    refine XS.iadd X2.here hx rfl (hb hby d5_16) rfl ?_
    rw [show cnt.toInt32 + (0 : Int32) = cnt.toInt32 from Int32.add_zero _]
    exact kt
  · refine ⟨T2, X2, e2, fun target kt => ?_⟩
    have hm : own_M cnt hz = cnt + 1 := if_neg hq
    rw [hm] at kt
    show Steps p.tables e below (T0.setTop (mkF m 0 #[.val (.ref a), .unset, .unset, .unset, .unset, .unset, .unset, .unset] [])) _
    refine XS.aloadN X0.here hx rfl (hb hby d5_0) rfl rfl ?_
    show Steps p.tables e below (T0.setTop (mkF m 1 #[.val (.ref a), .unset, .unset, .unset, .unset, .unset, .unset, .unset] [(.ref a)])) _
    refine st1 _ ?_
    show Steps p.tables e below (T1.setTop (mkF m 4 #[.val (.ref a), .unset, .unset, .unset, .unset, .unset, .unset, .unset] [(.int cnt.toInt32)])) _
    refine XS.aloadN X1.here hx rfl (hb hby d5_4) rfl rfl ?_
    show Steps p.tables e below (T1.setTop (mkF m 5 #[.val (.ref a), .unset, .unset, .unset, .unset, .unset, .unset, .unset] [(.ref a), (.int cnt.toInt32)])) _
    refine st2 _ ?_
    show Steps p.tables e below (T2.setTop (mkF m 8 #[.val (.ref a), .unset, .unset, .unset, .unset, .unset, .unset, .unset] [(.int hz), (.int cnt.toInt32)])) _
    refine XS.ifNo X2.here hx rfl (hb hby d5_8) rfl ((if0 _ _).trans (feq hq).1) ?_
    show Steps p.tables e below (T2.setTop (mkF m 11 #[.val (.ref a), .unset, .unset, .unset, .unset, .unset, .unset, .unset] [(.int cnt.toInt32)])) _
    refine XS.iconst X2.here hx rfl (hb hby d5_11) ?_
    show Steps p.tables e below (T2.setTop (mkF m 12 #[.val (.ref a), .unset, .unset, .unset, .unset, .unset, .unset, .unset] [(.int (1 : Int32)), (.int cnt.toInt32)])) _
    refine XS.goto X2.here hx rfl (pc0 := 12) (pc' := 16) rfl (hb hby d5_12) (by decide) (by decide) ?_
    show Steps p.tables e below (T2.setTop (mkF m 16 #[.val (.ref a), .unset, .unset, .unset, .unset, .unset, .unset, .unset] [(.int (1 : Int32)), (.int cnt.toInt32)])) _
    refine XS.iadd X2.here hx rfl (hb hby d5_16) rfl ?_
    rw [own_succ]
    exact kt
set_option maxRecDepth 65536 in
set_option maxHeartbeats 40000000 in
theorem own_pvl {p : Program} {l : Launch} {e : Env} {R : Room} {s : State} {m : MethodId} {args : Array Value} {below : List Frame} {meth : Method} {c : Code} {cells slots : Nat} {Z : State} {h1 : Heap} (a b t : Addr) (vs : List Int64) (M n0 : Nat)
    (hx : p.tables.exec = Jvm.exec) (hZ : Z.Warmed39 s.vm) (hby : c.code = prog_48_method_8_code) (h16 : vs.length = 16) (hM : (own_nz vs).length ≤ M) (hM2 : M < 2 ^ 31) (gb : n0 ≤ b) (htb : t ≠ b) (Jt0 : own_J Z h1 t vs) :
    ∀ (k i : Nat) (T0 : State) (h : Heap) (locs : List Loc) (o6 o7 : Slot), Stand p l e R s m args below meth c T0 locs cells slots → T0.heap = h → i + k = 16 → own_J Z h b (own_nz (vs.take i) ++ List.replicate (M - (own_nz (vs.take i)).length) 0) → Fr n0 locs → Keep h1 h [b] → own_P67 o6 o7 →
      ∃ T' h' L' o6' o7', Stand p l e R s m args below meth c T' L' cells slots ∧ T'.heap = h' ∧ own_J Z h' b (own_nz vs ++ List.replicate (M - (own_nz vs).length) 0) ∧ Fr n0 L' ∧ Keep h1 h' [b] ∧
        ∀ target, Steps p.tables e below (T'.setTop (mkF m 68 #[.val (.ref a), .val (.ref b), .val (.int (own_nz vs).length.toInt32), .val (.ref t), .val (.int (16 : Int32)), .val (.int (16 : Nat).toInt32), o6', o7'] [])) target → Steps p.tables e below (T0.setTop (mkF m 34 #[.val (.ref a), .val (.ref b), .val (.int (own_nz (vs.take i)).length.toInt32), .val (.ref t), .val (.int (16 : Int32)), .val (.int i.toInt32), o6, o7] [])) target := by
  have hl : vs.length < 2 ^ 31 := by omega
  intro k
  induction k with
  | zero =>
    intro i T0 h locs o6 o7 X0 e0 hk Jb N Kp ho
    have hge : ¬ i.toInt32 < (16 : Int32) := by rw [show (16 : Int32) = (16 : Nat).toInt32 from rfl, own_lt (by omega) (by decide)]; omega
    have hi16 : i = 16 := by omega
    have et : vs.take i = vs := List.take_of_length_le (by omega)
    rw [et] at Jb
    refine ⟨T0, h, locs, o6, o7, X0, e0, Jb, N, Kp, fun target kt => ?_⟩
    show Steps p.tables e below (T0.setTop (mkF m 34 #[.val (.ref a), .val (.ref b), .val (.int (own_nz (vs.take i)).length.toInt32), .val (.ref t), .val (.int (16 : Int32)), .val (.int i.toInt32), o6, o7] [])) _
    refine XS.iload X0.here hx rfl (hb hby d5_34) rfl ?_
    show Steps p.tables e below (T0.setTop (mkF m 36 #[.val (.ref a), .val (.ref b), .val (.int (own_nz (vs.take i)).length.toInt32), .val (.ref t), .val (.int (16 : Int32)), .val (.int i.toInt32), o6, o7] [(.int i.toInt32)])) _
    refine XS.iload X0.here hx rfl (hb hby d5_36) rfl ?_
    show Steps p.tables e below (T0.setTop (mkF m 38 #[.val (.ref a), .val (.ref b), .val (.int (own_nz (vs.take i)).length.toInt32), .val (.ref t), .val (.int (16 : Int32)), .val (.int i.toInt32), o6, o7] [(.int (16 : Int32)), (.int i.toInt32)])) _
    refine XS.icmpYes X0.here hx rfl (pc0 := 38) (pc' := 68) rfl (hb hby d5_38) rfl (flt hge).2.1 (by decide) (by decide) ?_
    rw [et, hi16]
    exact kt
  | succ k ih =>
    intro i T0 h locs o6 o7 X0 e0 hk Jb N Kp ho
    have hi : i < vs.length := by omega
    have hlt : i.toInt32 < (16 : Int32) := by rw [show (16 : Int32) = (16 : Nat).toInt32 from rfl, own_lt (by omega) (by decide)]; omega
    have hle := own_nz_le vs (i + 1)
    have hst := own_nz_take (vs := vs) hi
    obtain ⟨cl, Ar, Sz, Hs⟩ := Jt0.keep Kp (ninS htb nin0)
    by_cases hzz : vs.getD i 0 = 0
    · rw [if_pos hzz, List.append_nil] at hst
      obtain ⟨T', h', L', o6', o7', X', e', J', N', K', st'⟩ := ih (i + 1) T0 h locs (.val (.long (vs.getD i 0))) .second X0 e0 (by omega) (by rw [hst]; exact Jb) N Kp (Or.inr ⟨_, rfl, rfl⟩)
      refine ⟨T', h', L', o6', o7', X', e', J', N', K', fun target kt => ?_⟩
      show Steps p.tables e below (T0.setTop (mkF m 34 #[.val (.ref a), .val (.ref b), .val (.int (own_nz (vs.take i)).length.toInt32), .val (.ref t), .val (.int (16 : Int32)), .val (.int i.toInt32), o6, o7] [])) _
      refine XS.iload X0.here hx rfl (hb hby d5_34) rfl ?_
      show Steps p.tables e below (T0.setTop (mkF m 36 #[.val (.ref a), .val (.ref b), .val (.int (own_nz (vs.take i)).length.toInt32), .val (.ref t), .val (.int (16 : Int32)), .val (.int i.toInt32), o6, o7] [(.int i.toInt32)])) _
      refine XS.iload X0.here hx rfl (hb hby d5_36) rfl ?_
      show Steps p.tables e below (T0.setTop (mkF m 38 #[.val (.ref a), .val (.ref b), .val (.int (own_nz (vs.take i)).length.toInt32), .val (.ref t), .val (.int (16 : Int32)), .val (.int i.toInt32), o6, o7] [(.int (16 : Int32)), (.int i.toInt32)])) _
      refine XS.icmpNo X0.here hx rfl (hb hby d5_38) rfl (tlt hlt).2.1 ?_
      show Steps p.tables e below (T0.setTop (mkF m 41 #[.val (.ref a), .val (.ref b), .val (.int (own_nz (vs.take i)).length.toInt32), .val (.ref t), .val (.int (16 : Int32)), .val (.int i.toInt32), o6, o7] [])) _
      refine XS.aloadN X0.here hx rfl (hb hby d5_41) rfl rfl ?_
      show Steps p.tables e below (T0.setTop (mkF m 42 #[.val (.ref a), .val (.ref b), .val (.int (own_nz (vs.take i)).length.toInt32), .val (.ref t), .val (.int (16 : Int32)), .val (.int i.toInt32), o6, o7] [(.ref t)])) _
      refine XS.iload X0.here hx rfl (hb hby d5_42) rfl ?_
      show Steps p.tables e below (T0.setTop (mkF m 44 #[.val (.ref a), .val (.ref b), .val (.int (own_nz (vs.take i)).length.toInt32), .val (.ref t), .val (.int (16 : Int32)), .val (.int i.toInt32), o6, o7] [(.int i.toInt32), (.ref t)])) _
      refine X0.laload hx (j := i.toInt32) (v := (.long (vs.getD i 0))) (by rw [e0]; exact Ar.1) (State.isArrayOf_alike hZ.alike Ar.2.1) Ar.2.2 (own_ix Sz hi hl) (own_ld Hs hi hl) (g := (mkF m 44 #[.val (.ref a), .val (.ref b), .val (.int (own_nz (vs.take i)).length.toInt32), .val (.ref t), .val (.int (16 : Int32)), .val (.int i.toInt32), o6, o7] [(.int i.toInt32), (.ref t)])) rfl rfl (hb hby d5_44) _ ?_
      show Steps p.tables e below (T0.setTop (mkF m 45 #[.val (.ref a), .val (.ref b), .val (.int (own_nz (vs.take i)).length.toInt32), .val (.ref t), .val (.int (16 : Int32)), .val (.int i.toInt32), o6, o7] [(.long (vs.getD i 0))])) _
      refine XS.lstore X0.here hx rfl (hb hby d5_45) rfl (l' := #[.val (.ref a), .val (.ref b), .val (.int (own_nz (vs.take i)).length.toInt32), .val (.ref t), .val (.int (16 : Int32)), .val (.int i.toInt32), .val (.long (vs.getD i 0)), .second]) (own_os67 ho) ?_
      show Steps p.tables e below (T0.setTop (mkF m 47 #[.val (.ref a), .val (.ref b), .val (.int (own_nz (vs.take i)).length.toInt32), .val (.ref t), .val (.int (16 : Int32)), .val (.int i.toInt32), .val (.long (vs.getD i 0)), .second] [])) _
      refine XS.lload X0.here hx rfl (hb hby d5_47) rfl ?_
      show Steps p.tables e below (T0.setTop (mkF m 49 #[.val (.ref a), .val (.ref b), .val (.int (own_nz (vs.take i)).length.toInt32), .val (.ref t), .val (.int (16 : Int32)), .val (.int i.toInt32), .val (.long (vs.getD i 0)), .second] [(.long (vs.getD i 0))])) _
      refine XS.lconst X0.here hx rfl (hb hby d5_49) ?_
      show Steps p.tables e below (T0.setTop (mkF m 50 #[.val (.ref a), .val (.ref b), .val (.int (own_nz (vs.take i)).length.toInt32), .val (.ref t), .val (.int (16 : Int32)), .val (.int i.toInt32), .val (.long (vs.getD i 0)), .second] [(.long (0 : Int64)), (.long (vs.getD i 0))])) _
      refine XS.lcmp X0.here hx rfl (hb hby d5_50) rfl ?_
      show Steps p.tables e below (T0.setTop (mkF m 51 #[.val (.ref a), .val (.ref b), .val (.int (own_nz (vs.take i)).length.toInt32), .val (.ref t), .val (.int (16 : Int32)), .val (.int i.toInt32), .val (.long (vs.getD i 0)), .second] [(.int (lcmpW (vs.getD i 0) (0 : Int64)))])) _
      refine XS.ifYes X0.here hx rfl (pc0 := 51) (pc' := 62) rfl (hb hby d5_51) rfl ((if0 _ _).trans (teq ((lw_eq _ _).mpr hzz)).1) (by decide) (by decide) ?_
      show Steps p.tables e below (T0.setTop (mkF m 62 #[.val (.ref a), .val (.ref b), .val (.int (own_nz (vs.take i)).length.toInt32), .val (.ref t), .val (.int (16 : Int32)), .val (.int i.toInt32), .val (.long (vs.getD i 0)), .second] [])) _
      refine XS.iinc X0.here hx rfl (hb hby d5_62) rfl (l' := #[.val (.ref a), .val (.ref b), .val (.int (own_nz (vs.take i)).length.toInt32), .val (.ref t), .val (.int (16 : Int32)), .val (.int (i.toInt32 + (1 : Int32))), .val (.long (vs.getD i 0)), .second]) rfl ?_
      show Steps p.tables e below (T0.setTop (mkF m 65 #[.val (.ref a), .val (.ref b), .val (.int (own_nz (vs.take i)).length.toInt32), .val (.ref t), .val (.int (16 : Int32)), .val (.int (i.toInt32 + (1 : Int32))), .val (.long (vs.getD i 0)), .second] [])) _
      refine XS.goto X0.here hx rfl (pc0 := 65) (pc' := 34) rfl (hb hby d5_65) (by decide) (by decide) ?_
      rw [own_succ, ← hst]
      exact st' target kt
    · rw [if_neg hzz] at hst
      have hlen : (own_nz (vs.take (i + 1))).length = (own_nz (vs.take i)).length + 1 := by rw [hst]; simp
      obtain ⟨T1, h1', L1, X1, e1, A1, N1, z1, K1, st1⟩ := own_st X0 hx hZ e0 Jb gb N (own_nz (vs.take i)).length.toInt32 (own_nz (vs.take i)).length (own_nat (by omega)) (by simp; omega) (vs.getD i 0) (g := (mkF m 58 #[.val (.ref a), .val (.ref b), .val (.int (own_nz (vs.take i)).length.toInt32), .val (.ref t), .val (.int (16 : Int32)), .val (.int i.toInt32), .val (.long (vs.getD i 0)), .second] [(.long (vs.getD i 0)), (.int (own_nz (vs.take i)).length.toInt32), (.ref b)])) rfl rfl (hb hby d5_58)
      rw [own_fill (q := 0) (by omega), ← hst] at A1
      obtain ⟨T', h', L', o6', o7', X', e', J', N', K', st'⟩ := ih (i + 1) T1 h1' L1 (.val (.long (vs.getD i 0))) .second X1 e1 (by omega) A1 N1 (Kp.trans K1 (allS (Or.inl (List.mem_of_getElem? (i := 0) rfl)) all0)) (Or.inr ⟨_, rfl, rfl⟩)
      refine ⟨T', h', L', o6', o7', X', e', J', N', K', fun target kt => ?_⟩
      show Steps p.tables e below (T0.setTop (mkF m 34 #[.val (.ref a), .val (.ref b), .val (.int (own_nz (vs.take i)).length.toInt32), .val (.ref t), .val (.int (16 : Int32)), .val (.int i.toInt32), o6, o7] [])) _
      refine XS.iload X0.here hx rfl (hb hby d5_34) rfl ?_
      show Steps p.tables e below (T0.setTop (mkF m 36 #[.val (.ref a), .val (.ref b), .val (.int (own_nz (vs.take i)).length.toInt32), .val (.ref t), .val (.int (16 : Int32)), .val (.int i.toInt32), o6, o7] [(.int i.toInt32)])) _
      refine XS.iload X0.here hx rfl (hb hby d5_36) rfl ?_
      show Steps p.tables e below (T0.setTop (mkF m 38 #[.val (.ref a), .val (.ref b), .val (.int (own_nz (vs.take i)).length.toInt32), .val (.ref t), .val (.int (16 : Int32)), .val (.int i.toInt32), o6, o7] [(.int (16 : Int32)), (.int i.toInt32)])) _
      refine XS.icmpNo X0.here hx rfl (hb hby d5_38) rfl (tlt hlt).2.1 ?_
      show Steps p.tables e below (T0.setTop (mkF m 41 #[.val (.ref a), .val (.ref b), .val (.int (own_nz (vs.take i)).length.toInt32), .val (.ref t), .val (.int (16 : Int32)), .val (.int i.toInt32), o6, o7] [])) _
      refine XS.aloadN X0.here hx rfl (hb hby d5_41) rfl rfl ?_
      show Steps p.tables e below (T0.setTop (mkF m 42 #[.val (.ref a), .val (.ref b), .val (.int (own_nz (vs.take i)).length.toInt32), .val (.ref t), .val (.int (16 : Int32)), .val (.int i.toInt32), o6, o7] [(.ref t)])) _
      refine XS.iload X0.here hx rfl (hb hby d5_42) rfl ?_
      show Steps p.tables e below (T0.setTop (mkF m 44 #[.val (.ref a), .val (.ref b), .val (.int (own_nz (vs.take i)).length.toInt32), .val (.ref t), .val (.int (16 : Int32)), .val (.int i.toInt32), o6, o7] [(.int i.toInt32), (.ref t)])) _
      refine X0.laload hx (j := i.toInt32) (v := (.long (vs.getD i 0))) (by rw [e0]; exact Ar.1) (State.isArrayOf_alike hZ.alike Ar.2.1) Ar.2.2 (own_ix Sz hi hl) (own_ld Hs hi hl) (g := (mkF m 44 #[.val (.ref a), .val (.ref b), .val (.int (own_nz (vs.take i)).length.toInt32), .val (.ref t), .val (.int (16 : Int32)), .val (.int i.toInt32), o6, o7] [(.int i.toInt32), (.ref t)])) rfl rfl (hb hby d5_44) _ ?_
      show Steps p.tables e below (T0.setTop (mkF m 45 #[.val (.ref a), .val (.ref b), .val (.int (own_nz (vs.take i)).length.toInt32), .val (.ref t), .val (.int (16 : Int32)), .val (.int i.toInt32), o6, o7] [(.long (vs.getD i 0))])) _
      refine XS.lstore X0.here hx rfl (hb hby d5_45) rfl (l' := #[.val (.ref a), .val (.ref b), .val (.int (own_nz (vs.take i)).length.toInt32), .val (.ref t), .val (.int (16 : Int32)), .val (.int i.toInt32), .val (.long (vs.getD i 0)), .second]) (own_os67 ho) ?_
      show Steps p.tables e below (T0.setTop (mkF m 47 #[.val (.ref a), .val (.ref b), .val (.int (own_nz (vs.take i)).length.toInt32), .val (.ref t), .val (.int (16 : Int32)), .val (.int i.toInt32), .val (.long (vs.getD i 0)), .second] [])) _
      refine XS.lload X0.here hx rfl (hb hby d5_47) rfl ?_
      show Steps p.tables e below (T0.setTop (mkF m 49 #[.val (.ref a), .val (.ref b), .val (.int (own_nz (vs.take i)).length.toInt32), .val (.ref t), .val (.int (16 : Int32)), .val (.int i.toInt32), .val (.long (vs.getD i 0)), .second] [(.long (vs.getD i 0))])) _
      refine XS.lconst X0.here hx rfl (hb hby d5_49) ?_
      show Steps p.tables e below (T0.setTop (mkF m 50 #[.val (.ref a), .val (.ref b), .val (.int (own_nz (vs.take i)).length.toInt32), .val (.ref t), .val (.int (16 : Int32)), .val (.int i.toInt32), .val (.long (vs.getD i 0)), .second] [(.long (0 : Int64)), (.long (vs.getD i 0))])) _
      refine XS.lcmp X0.here hx rfl (hb hby d5_50) rfl ?_
      show Steps p.tables e below (T0.setTop (mkF m 51 #[.val (.ref a), .val (.ref b), .val (.int (own_nz (vs.take i)).length.toInt32), .val (.ref t), .val (.int (16 : Int32)), .val (.int i.toInt32), .val (.long (vs.getD i 0)), .second] [(.int (lcmpW (vs.getD i 0) (0 : Int64)))])) _
      refine XS.ifNo X0.here hx rfl (hb hby d5_51) rfl ((if0 _ _).trans (feq (fun z => hzz ((lw_eq _ _).mp z))).1) ?_
      show Steps p.tables e below (T0.setTop (mkF m 54 #[.val (.ref a), .val (.ref b), .val (.int (own_nz (vs.take i)).length.toInt32), .val (.ref t), .val (.int (16 : Int32)), .val (.int i.toInt32), .val (.long (vs.getD i 0)), .second] [])) _
      refine XS.aloadN X0.here hx rfl (hb hby d5_54) rfl rfl ?_
      show Steps p.tables e below (T0.setTop (mkF m 55 #[.val (.ref a), .val (.ref b), .val (.int (own_nz (vs.take i)).length.toInt32), .val (.ref t), .val (.int (16 : Int32)), .val (.int i.toInt32), .val (.long (vs.getD i 0)), .second] [(.ref b)])) _
      refine XS.iloadN X0.here hx rfl (hb hby d5_55) rfl ?_
      show Steps p.tables e below (T0.setTop (mkF m 56 #[.val (.ref a), .val (.ref b), .val (.int (own_nz (vs.take i)).length.toInt32), .val (.ref t), .val (.int (16 : Int32)), .val (.int i.toInt32), .val (.long (vs.getD i 0)), .second] [(.int (own_nz (vs.take i)).length.toInt32), (.ref b)])) _
      refine XS.lload X0.here hx rfl (hb hby d5_56) rfl ?_
      show Steps p.tables e below (T0.setTop (mkF m 58 #[.val (.ref a), .val (.ref b), .val (.int (own_nz (vs.take i)).length.toInt32), .val (.ref t), .val (.int (16 : Int32)), .val (.int i.toInt32), .val (.long (vs.getD i 0)), .second] [(.long (vs.getD i 0)), (.int (own_nz (vs.take i)).length.toInt32), (.ref b)])) _
      refine st1 _ ?_
      show Steps p.tables e below (T1.setTop (mkF m 59 #[.val (.ref a), .val (.ref b), .val (.int (own_nz (vs.take i)).length.toInt32), .val (.ref t), .val (.int (16 : Int32)), .val (.int i.toInt32), .val (.long (vs.getD i 0)), .second] [])) _
      refine XS.iinc X1.here hx rfl (hb hby d5_59) rfl (l' := #[.val (.ref a), .val (.ref b), .val (.int ((own_nz (vs.take i)).length.toInt32 + (1 : Int32))), .val (.ref t), .val (.int (16 : Int32)), .val (.int i.toInt32), .val (.long (vs.getD i 0)), .second]) rfl ?_
      show Steps p.tables e below (T1.setTop (mkF m 62 #[.val (.ref a), .val (.ref b), .val (.int ((own_nz (vs.take i)).length.toInt32 + (1 : Int32))), .val (.ref t), .val (.int (16 : Int32)), .val (.int i.toInt32), .val (.long (vs.getD i 0)), .second] [])) _
      refine XS.iinc X1.here hx rfl (hb hby d5_62) rfl (l' := #[.val (.ref a), .val (.ref b), .val (.int ((own_nz (vs.take i)).length.toInt32 + (1 : Int32))), .val (.ref t), .val (.int (16 : Int32)), .val (.int (i.toInt32 + (1 : Int32))), .val (.long (vs.getD i 0)), .second]) rfl ?_
      show Steps p.tables e below (T1.setTop (mkF m 65 #[.val (.ref a), .val (.ref b), .val (.int ((own_nz (vs.take i)).length.toInt32 + (1 : Int32))), .val (.ref t), .val (.int (16 : Int32)), .val (.int (i.toInt32 + (1 : Int32))), .val (.long (vs.getD i 0)), .second] [])) _
      refine XS.goto X1.here hx rfl (pc0 := 65) (pc' := 34) rfl (hb hby d5_65) (by decide) (by decide) ?_
      rw [own_succ, own_succ, ← hlen]
      exact st' target kt
theorem ef_5 (m : MethodId) (x0 : Addr) : entryFrame m #[(.ref x0)] 8 = mkF m 0 #[.val (.ref x0), .unset, .unset, .unset, .unset, .unset, .unset, .unset] [] := by first | (simp [entryFrame, mkF, argsToLocals, Value.category]; done) | rfl
def Q5 (Z : State) (a t : Addr) (vs : List Int64) (cnt : Nat) (hz : Int32) (h0 : Heap) (n0 : Nat) (vv : Option Value) (h : Heap) (L : List Loc) : Prop := ∃ b, vv = some (.ref b) ∧ Fr n0 L ∧ own_J Z h b (own_out vs hz) ∧ h0.size ≤ h.size
set_option maxRecDepth 65536 in
set_option maxHeartbeats 40000000 in
theorem rm5 (l : Launch) (Z : State) (a0 : Array Value) (hw : ∀ d ∈ tables_1, d.before a0 Z = true) (ws' : List Jvm.Cond) (a t : Addr) (vs : List Int64) (cnt : Nat) (hz : Int32) (h0 : Heap) (n0 : Nat) (Z0 : n0 ≤ h0.size) (A : own_K Z h0 a t vs cnt hz) (h16 : vs.length = 16) (hcn : cnt = (own_nz vs).length) (hc : cnt ≤ 12) :
    MetFree l (⟨"com/example/intact_keys/intactkeys/check/KeySet", "packedValues", "()[J"⟩ : MethodName) (head1 (Jvm.Cond.code (⟨"com/example/intact_keys/intactkeys/check/KeySet", "packedValues", "()[J"⟩ : MethodName) prog_48_method_8_code 8 (some (.array .long)) :: ws') ({ frames := 0, cells := 1, slots := 16, locals := 0 } : Room)) (fun aa U => aa = #[(.ref a)] ∧ Z.Warmed39 U.vm ∧ U.heap = h0) (fun _ _ _ _ _ => True) (fun _ U o U' => ∃ vv L, o = .returned vv ∧ Q5 Z a t vs cnt hz h0 n0 vv U'.heap L ∧ FrameEnd U o U' L (({ frames := 0, cells := 1, slots := 16, locals := 0 } : Room)).cells (({ frames := 0, cells := 1, slots := 16, locals := 0 } : Room)).slots) := by
  refine MetFree.of_bodySF (plainFor_of_name pn_K) hisR ?_
  intro p e s m args below meth c s₁ Bd hml0 hP hK
  obtain ⟨rfl, hZ, hh⟩ := hP
  have hx := Bd.exec
  have hby := Bd.bytes
  have hml : c.maxLocals = 8 := hml0
  have hown : s.vm.findClass "com/example/intact_keys/intactkeys/check/KeySet" = some m.cls := findClass_of_methodNamed Bd.named
  have hnm := (name_of_methodNamed Bd.named Bd.method).1
  have X0 : Stand p l e ({ frames := 0, cells := 1, slots := 16, locals := 0 } : Room) s m #[(.ref a)] below meth c s₁ [] 0 0 := Stand.of_body Bd
  have e0 : s₁.heap = h0 := by rw [← hh, Bd.state]; rfl
  have N0 := Fr.nil n0
  obtain ⟨x1, x2, x3, x4, x5, x6⟩ := A
  have hcM : cnt ≤ own_M cnt hz := by unfold own_M; split <;> omega
  have hM16 : own_M cnt hz ≤ 16 := by unfold own_M; split <;> omega
  have hM31 : own_M cnt hz < 2 ^ 31 := by omega
  obtain ⟨TA, XA, eA, stA⟩ := own_pv0 a cnt hz X0 hx hZ hw hby hown e0 x4 x5
  obtain ⟨T1, h1, k1, X1, e1, E1, A1, st1⟩ := newP XA hx hZ (hw _ (List.mem_of_getElem? (i := 9) rfl)) eA (g := (mkF m 17 #[.val (.ref a), .unset, .unset, .unset, .unset, .unset, .unset, .unset] [(.int (own_M cnt hz).toInt32)])) rfl (hb hby d5_17) rfl (own_nat hM31).1 (cap := 16) (by rw [(own_nat hM31).2]; exact hM16) (by decide) (by decide) (by decide)
  obtain ⟨b, g1⟩ : ∃ z, z = h0.size := ⟨_, rfl⟩
  rw [← g1] at A1 st1
  have J1 := own_J.new A1
  rw [(own_nat hM31).2] at J1
  have gb : n0 ≤ b := Nat.le_trans Z0 (Nat.le_of_eq g1.symm)
  have hab : a ≠ b := Nat.ne_of_lt (by rw [g1]; exact x1.lt)
  have htb : t ≠ b := Nat.ne_of_lt (by rw [g1]; exact x6.lt)
  have Jt := x6.ext E1
  obtain ⟨T2, X2, e2, st2⟩ := getF X1 hx hZ hown (host := "") (Or.inl (hw _ (List.mem_of_getElem? (i := 10) rfl))) Via.refl e1 (x2.ext E1) (g := (mkF m 23 #[.val (.ref a), .val (.ref b), .val (.int (0 : Int32)), .unset, .unset, .unset, .unset, .unset] [(.ref a)])) rfl rfl (hb hby d5_23)
  obtain ⟨cl, Ar, Sz, Hs⟩ := (show own_J Z h1 t vs from Jt)
  have Sz16 : cl.slots.size.toInt32 = 16 := by rw [Sz, h16]; rfl
  obtain ⟨T3, h3, L3, o6, o7, X3, e3, J3, N3, K3, st3⟩ := own_pvl a b t vs (own_M cnt hz) n0 hx hZ hby h16 (by rw [← hcn]; exact hcM) hM31 gb htb Jt 16 0 T2 h1 [] .unset .unset X2 e2 (by omega) J1 N0 (Keep.refl _ _) (Or.inl ⟨rfl, rfl⟩)
  rw [← hcn] at J3 st3
  have nab : a ∉ [b] := ninS hab nin0
  obtain ⟨T4, X4, e4, st4⟩ := getF X3 hx hZ hown (host := "") (Or.inl (hw _ (List.mem_of_getElem? (i := 47) rfl))) Via.refl e3 ((x5.ext E1).keep K3 nab) (g := (mkF m 69 #[.val (.ref a), .val (.ref b), .val (.int cnt.toInt32), .val (.ref t), .val (.int (16 : Int32)), .val (.int (16 : Nat).toInt32), o6, o7] [(.ref a)])) rfl rfl (hb hby d5_69)
  have hK3 : h0.size ≤ h3.size := Nat.le_trans E1.1 K3.1
  by_cases hq : hz = 0
  · obtain ⟨fs, hr, hrun, hended, hW, hsame⟩ := X4.leave (v := some (.ref b)) (fun h => by rw [Bd.returns] at h; cases h)
    refine ⟨_, _, castTop (ef_5 m a) (stA _ ?_), hrun, hended, _, _, rfl, ?_, ⟨_, rfl⟩, hW, hsame.mono (by decide) (by decide)⟩
    · show Steps p.tables e below (TA.setTop (mkF m 17 #[.val (.ref a), .unset, .unset, .unset, .unset, .unset, .unset, .unset] [(.int (own_M cnt hz).toInt32)])) _
      refine st1 _ ?_
      show Steps p.tables e below (T1.setTop (mkF m 19 #[.val (.ref a), .unset, .unset, .unset, .unset, .unset, .unset, .unset] [(.ref b)])) _
      refine XS.astoreN X1.here hx rfl (hb hby d5_19) rfl rfl (l' := #[.val (.ref a), .val (.ref b), .unset, .unset, .unset, .unset, .unset, .unset]) rfl ?_
      show Steps p.tables e below (T1.setTop (mkF m 20 #[.val (.ref a), .val (.ref b), .unset, .unset, .unset, .unset, .unset, .unset] [])) _
      refine XS.iconst X1.here hx rfl (hb hby d5_20) ?_
      show Steps p.tables e below (T1.setTop (mkF m 21 #[.val (.ref a), .val (.ref b), .unset, .unset, .unset, .unset, .unset, .unset] [(.int (0 : Int32))])) _
      refine XS.istoreN X1.here hx rfl (hb hby d5_21) rfl (l' := #[.val (.ref a), .val (.ref b), .val (.int (0 : Int32)), .unset, .unset, .unset, .unset, .unset]) rfl ?_
      show Steps p.tables e below (T1.setTop (mkF m 22 #[.val (.ref a), .val (.ref b), .val (.int (0 : Int32)), .unset, .unset, .unset, .unset, .unset] [])) _
      refine XS.aloadN X1.here hx rfl (hb hby d5_22) rfl rfl ?_
      show Steps p.tables e below (T1.setTop (mkF m 23 #[.val (.ref a), .val (.ref b), .val (.int (0 : Int32)), .unset, .unset, .unset, .unset, .unset] [(.ref a)])) _
      refine st2 _ ?_
      show Steps p.tables e below (T2.setTop (mkF m 26 #[.val (.ref a), .val (.ref b), .val (.int (0 : Int32)), .unset, .unset, .unset, .unset, .unset] [(.ref t)])) _
      refine XS.astoreN X2.here hx rfl (hb hby d5_26) rfl rfl (l' := #[.val (.ref a), .val (.ref b), .val (.int (0 : Int32)), .val (.ref t), .unset, .unset, .unset, .unset]) rfl ?_
      show Steps p.tables e below (T2.setTop (mkF m 27 #[.val (.ref a), .val (.ref b), .val (.int (0 : Int32)), .val (.ref t), .unset, .unset, .unset, .unset] [])) _
      refine XS.aloadN X2.here hx rfl (hb hby d5_27) rfl rfl ?_
      show Steps p.tables e below (T2.setTop (mkF m 28 #[.val (.ref a), .val (.ref b), .val (.int (0 : Int32)), .val (.ref t), .unset, .unset, .unset, .unset] [(.ref t)])) _
      refine X2.arraylength hx (by rw [e2]; exact Ar.1) (State.isArrayOf_alike hZ.alike Ar.2.1) (g := (mkF m 28 #[.val (.ref a), .val (.ref b), .val (.int (0 : Int32)), .val (.ref t), .unset, .unset, .unset, .unset] [(.ref t)])) rfl rfl (hb hby d5_28) _ ?_
      rw [Sz16]
      show Steps p.tables e below (T2.setTop (mkF m 29 #[.val (.ref a), .val (.ref b), .val (.int (0 : Int32)), .val (.ref t), .unset, .unset, .unset, .unset] [(.int (16 : Int32))])) _
      refine XS.istore X2.here hx rfl (hb hby d5_29) rfl (l' := #[.val (.ref a), .val (.ref b), .val (.int (0 : Int32)), .val (.ref t), .val (.int (16 : Int32)), .unset, .unset, .unset]) rfl ?_
      show Steps p.tables e below (T2.setTop (mkF m 31 #[.val (.ref a), .val (.ref b), .val (.int (0 : Int32)), .val (.ref t), .val (.int (16 : Int32)), .unset, .unset, .unset] [])) _
      refine XS.iconst X2.here hx rfl (hb hby d5_31) ?_
      show Steps p.tables e below (T2.setTop (mkF m 32 #[.val (.ref a), .val (.ref b), .val (.int (0 : Int32)), .val (.ref t), .val (.int (16 : Int32)), .unset, .unset, .unset] [(.int (0 : Int32))])) _
      refine XS.istore X2.here hx rfl (hb hby d5_32) rfl (l' := #[.val (.ref a), .val (.ref b), .val (.int (0 : Int32)), .val (.ref t), .val (.int (16 : Int32)), .val (.int (0 : Int32)), .unset, .unset]) rfl ?_
      show Steps p.tables e below (T2.setTop (mkF m 34 #[.val (.ref a), .val (.ref b), .val (.int (own_nz (vs.take 0)).length.toInt32), .val (.ref t), .val (.int (16 : Int32)), .val (.int (0 : Nat).toInt32), .unset, .unset] [])) _
      refine st3 _ ?_
      show Steps p.tables e below (T3.setTop (mkF m 68 #[.val (.ref a), .val (.ref b), .val (.int cnt.toInt32), .val (.ref t), .val (.int (16 : Int32)), .val (.int (16 : Nat).toInt32), o6, o7] [])) _
      refine XS.aloadN X3.here hx rfl (hb hby d5_68) rfl rfl ?_
      show Steps p.tables e below (T3.setTop (mkF m 69 #[.val (.ref a), .val (.ref b), .val (.int cnt.toInt32), .val (.ref t), .val (.int (16 : Int32)), .val (.int (16 : Nat).toInt32), o6, o7] [(.ref a)])) _
      refine st4 _ ?_
      show Steps p.tables e below (T4.setTop (mkF m 72 #[.val (.ref a), .val (.ref b), .val (.int cnt.toInt32), .val (.ref t), .val (.int (16 : Int32)), .val (.int (16 : Nat).toInt32), o6, o7] [(.int hz)])) _
      refine XS.ifYes X4.here hx rfl (pc0 := 72) (pc' := 79) rfl (hb hby d5_72) rfl ((if0 _ _).trans (teq hq).1) (by decide) (by decide) ?_
      show Steps p.tables e below (T4.setTop (mkF m 79 #[.val (.ref a), .val (.ref b), .val (.int cnt.toInt32), .val (.ref t), .val (.int (16 : Int32)), .val (.int (16 : Nat).toInt32), o6, o7] [])) _
      refine XS.aloadN X4.here hx rfl (hb hby d5_79) rfl rfl ?_
      show Steps p.tables e below (T4.setTop (mkF m 80 #[.val (.ref a), .val (.ref b), .val (.int cnt.toInt32), .val (.ref t), .val (.int (16 : Int32)), .val (.int (16 : Nat).toInt32), o6, o7] [(.ref b)])) _
      jvm_step X4.here [X4.here.top, hx, (hb hby d5_80), X4.method', Bd.returns, Value.isRef, FieldType.isReference]
      first | (intro acts; rw [hr _ acts rfl rfl rfl]) | rw [hr _ _ rfl rfl rfl]
      exact Steps.refl _
    · refine ⟨b, rfl, N3, ?_, by rw [show (T4.setFrames fs).heap = h3 from e4]; exact hK3⟩
      rw [show (T4.setFrames fs).heap = h3 from e4]
      have hm : own_M cnt hz = cnt := if_pos hq
      rw [hm, Nat.sub_self, List.replicate_zero, List.append_nil] at J3
      unfold own_out
      rw [if_pos hq, List.append_nil]
      exact J3
  · have hm : own_M cnt hz = cnt + 1 := if_neg hq
    obtain ⟨T5, h5, L5, X5, e5, A5, N5, z5, K5, st5⟩ := own_st X4 hx hZ e4 J3 gb N3 cnt.toInt32 cnt (own_nat (by omega)) (by simp; omega) 0 (g := (mkF m 78 #[.val (.ref a), .val (.ref b), .val (.int cnt.toInt32), .val (.ref t), .val (.int (16 : Int32)), .val (.int (16 : Nat).toInt32), o6, o7] [(.long (0 : Int64)), (.int cnt.toInt32), (.ref b)])) rfl rfl (hb hby d5_78)
    obtain ⟨fs, hr, hrun, hended, hW, hsame⟩ := X5.leave (v := some (.ref b)) (fun h => by rw [Bd.returns] at h; cases h)
    refine ⟨_, _, castTop (ef_5 m a) (stA _ ?_), hrun, hended, _, _, rfl, ?_, ⟨_, rfl⟩, hW, hsame.mono (by decide) (by decide)⟩
    · show Steps p.tables e below (TA.setTop (mkF m 17 #[.val (.ref a), .unset, .unset, .unset, .unset, .unset, .unset, .unset] [(.int (own_M cnt hz).toInt32)])) _
      refine st1 _ ?_
      show Steps p.tables e below (T1.setTop (mkF m 19 #[.val (.ref a), .unset, .unset, .unset, .unset, .unset, .unset, .unset] [(.ref b)])) _
      refine XS.astoreN X1.here hx rfl (hb hby d5_19) rfl rfl (l' := #[.val (.ref a), .val (.ref b), .unset, .unset, .unset, .unset, .unset, .unset]) rfl ?_
      show Steps p.tables e below (T1.setTop (mkF m 20 #[.val (.ref a), .val (.ref b), .unset, .unset, .unset, .unset, .unset, .unset] [])) _
      refine XS.iconst X1.here hx rfl (hb hby d5_20) ?_
      show Steps p.tables e below (T1.setTop (mkF m 21 #[.val (.ref a), .val (.ref b), .unset, .unset, .unset, .unset, .unset, .unset] [(.int (0 : Int32))])) _
      refine XS.istoreN X1.here hx rfl (hb hby d5_21) rfl (l' := #[.val (.ref a), .val (.ref b), .val (.int (0 : Int32)), .unset, .unset, .unset, .unset, .unset]) rfl ?_
      show Steps p.tables e below (T1.setTop (mkF m 22 #[.val (.ref a), .val (.ref b), .val (.int (0 : Int32)), .unset, .unset, .unset, .unset, .unset] [])) _
      refine XS.aloadN X1.here hx rfl (hb hby d5_22) rfl rfl ?_
      show Steps p.tables e below (T1.setTop (mkF m 23 #[.val (.ref a), .val (.ref b), .val (.int (0 : Int32)), .unset, .unset, .unset, .unset, .unset] [(.ref a)])) _
      refine st2 _ ?_
      show Steps p.tables e below (T2.setTop (mkF m 26 #[.val (.ref a), .val (.ref b), .val (.int (0 : Int32)), .unset, .unset, .unset, .unset, .unset] [(.ref t)])) _
      refine XS.astoreN X2.here hx rfl (hb hby d5_26) rfl rfl (l' := #[.val (.ref a), .val (.ref b), .val (.int (0 : Int32)), .val (.ref t), .unset, .unset, .unset, .unset]) rfl ?_
      show Steps p.tables e below (T2.setTop (mkF m 27 #[.val (.ref a), .val (.ref b), .val (.int (0 : Int32)), .val (.ref t), .unset, .unset, .unset, .unset] [])) _
      refine XS.aloadN X2.here hx rfl (hb hby d5_27) rfl rfl ?_
      show Steps p.tables e below (T2.setTop (mkF m 28 #[.val (.ref a), .val (.ref b), .val (.int (0 : Int32)), .val (.ref t), .unset, .unset, .unset, .unset] [(.ref t)])) _
      refine X2.arraylength hx (by rw [e2]; exact Ar.1) (State.isArrayOf_alike hZ.alike Ar.2.1) (g := (mkF m 28 #[.val (.ref a), .val (.ref b), .val (.int (0 : Int32)), .val (.ref t), .unset, .unset, .unset, .unset] [(.ref t)])) rfl rfl (hb hby d5_28) _ ?_
      rw [Sz16]
      show Steps p.tables e below (T2.setTop (mkF m 29 #[.val (.ref a), .val (.ref b), .val (.int (0 : Int32)), .val (.ref t), .unset, .unset, .unset, .unset] [(.int (16 : Int32))])) _
      refine XS.istore X2.here hx rfl (hb hby d5_29) rfl (l' := #[.val (.ref a), .val (.ref b), .val (.int (0 : Int32)), .val (.ref t), .val (.int (16 : Int32)), .unset, .unset, .unset]) rfl ?_
      show Steps p.tables e below (T2.setTop (mkF m 31 #[.val (.ref a), .val (.ref b), .val (.int (0 : Int32)), .val (.ref t), .val (.int (16 : Int32)), .unset, .unset, .unset] [])) _
      refine XS.iconst X2.here hx rfl (hb hby d5_31) ?_
      show Steps p.tables e below (T2.setTop (mkF m 32 #[.val (.ref a), .val (.ref b), .val (.int (0 : Int32)), .val (.ref t), .val (.int (16 : Int32)), .unset, .unset, .unset] [(.int (0 : Int32))])) _
      refine XS.istore X2.here hx rfl (hb hby d5_32) rfl (l' := #[.val (.ref a), .val (.ref b), .val (.int (0 : Int32)), .val (.ref t), .val (.int (16 : Int32)), .val (.int (0 : Int32)), .unset, .unset]) rfl ?_
      show Steps p.tables e below (T2.setTop (mkF m 34 #[.val (.ref a), .val (.ref b), .val (.int (own_nz (vs.take 0)).length.toInt32), .val (.ref t), .val (.int (16 : Int32)), .val (.int (0 : Nat).toInt32), .unset, .unset] [])) _
      refine st3 _ ?_
      show Steps p.tables e below (T3.setTop (mkF m 68 #[.val (.ref a), .val (.ref b), .val (.int cnt.toInt32), .val (.ref t), .val (.int (16 : Int32)), .val (.int (16 : Nat).toInt32), o6, o7] [])) _
      refine XS.aloadN X3.here hx rfl (hb hby d5_68) rfl rfl ?_
      show Steps p.tables e below (T3.setTop (mkF m 69 #[.val (.ref a), .val (.ref b), .val (.int cnt.toInt32), .val (.ref t), .val (.int (16 : Int32)), .val (.int (16 : Nat).toInt32), o6, o7] [(.ref a)])) _
      refine st4 _ ?_
      show Steps p.tables e below (T4.setTop (mkF m 72 #[.val (.ref a), .val (.ref b), .val (.int cnt.toInt32), .val (.ref t), .val (.int (16 : Int32)), .val (.int (16 : Nat).toInt32), o6, o7] [(.int hz)])) _
      refine XS.ifNo X4.here hx rfl (hb hby d5_72) rfl ((if0 _ _).trans (feq hq).1) ?_
      show Steps p.tables e below (T4.setTop (mkF m 75 #[.val (.ref a), .val (.ref b), .val (.int cnt.toInt32), .val (.ref t), .val (.int (16 : Int32)), .val (.int (16 : Nat).toInt32), o6, o7] [])) _
      refine XS.aloadN X4.here hx rfl (hb hby d5_75) rfl rfl ?_
      show Steps p.tables e below (T4.setTop (mkF m 76 #[.val (.ref a), .val (.ref b), .val (.int cnt.toInt32), .val (.ref t), .val (.int (16 : Int32)), .val (.int (16 : Nat).toInt32), o6, o7] [(.ref b)])) _
      refine XS.iloadN X4.here hx rfl (hb hby d5_76) rfl ?_
      show Steps p.tables e below (T4.setTop (mkF m 77 #[.val (.ref a), .val (.ref b), .val (.int cnt.toInt32), .val (.ref t), .val (.int (16 : Int32)), .val (.int (16 : Nat).toInt32), o6, o7] [(.int cnt.toInt32), (.ref b)])) _
      refine XS.lconst X4.here hx rfl (hb hby d5_77) ?_
      show Steps p.tables e below (T4.setTop (mkF m 78 #[.val (.ref a), .val (.ref b), .val (.int cnt.toInt32), .val (.ref t), .val (.int (16 : Int32)), .val (.int (16 : Nat).toInt32), o6, o7] [(.long (0 : Int64)), (.int cnt.toInt32), (.ref b)])) _
      refine st5 _ ?_
      show Steps p.tables e below (T5.setTop (mkF m 79 #[.val (.ref a), .val (.ref b), .val (.int cnt.toInt32), .val (.ref t), .val (.int (16 : Int32)), .val (.int (16 : Nat).toInt32), o6, o7] [])) _
      refine XS.aloadN X5.here hx rfl (hb hby d5_79) rfl rfl ?_
      show Steps p.tables e below (T5.setTop (mkF m 80 #[.val (.ref a), .val (.ref b), .val (.int cnt.toInt32), .val (.ref t), .val (.int (16 : Int32)), .val (.int (16 : Nat).toInt32), o6, o7] [(.ref b)])) _
      jvm_step X5.here [X5.here.top, hx, (hb hby d5_80), X5.method', Bd.returns, Value.isRef, FieldType.isReference]
      first | (intro acts; rw [hr _ acts rfl rfl rfl]) | rw [hr _ _ rfl rfl rfl]
      exact Steps.refl _
    · refine ⟨b, rfl, N5, ?_, by rw [show (T5.setFrames fs).heap = h5 from e5, z5]; exact hK3⟩
      rw [show (T5.setFrames fs).heap = h5 from e5]
      rw [hcn, own_fill (q := 0) (by rw [← hcn, hm]; omega), List.length_append, show own_M (own_nz vs).length hz - ((own_nz vs).length + [(0 : Int64)].length) = 0 from by rw [← hcn, hm]; simp, List.replicate_zero, List.append_nil] at A5
      unfold own_out
      rw [if_neg hq]
      exact A5
theorem own_rlt {n k : Int32} {ws : List Int64} (hn : n = ws.length.toInt32) (hl : ws.length < 2 ^ 31) {i : Nat} (h : k < n) (hk : k.toNatClampNeg = i) (h0 : ¬ k < 0 := by decide) : i < ws.length := by
  subst hn; rw [Int32.lt_iff_toInt_lt, own_toInt hl] at h; rw [Int32.lt_iff_toInt_lt, show (0 : Int32).toInt = 0 from rfl] at h0; rw [← hk, Int32.toNatClampNeg]
  omega
theorem own_rin {n k : Int32} {cl : Cell} {ws : List Int64} (S : cl.slots.size = ws.length) (hn : n = ws.length.toInt32) (hl : ws.length < 2 ^ 31) {i : Nat} (h : k < n) (hk : k.toNatClampNeg = i) (h0 : ¬ k < 0 := by decide) : ¬ (k < 0 ∨ cl.slots.size ≤ k.toNatClampNeg) := by
  have := own_rlt hn hl h rfl h0
  rw [S]; intro q; rcases q with q | q
  · exact h0 q
  · omega
def own_cnt_f69 (ws : List Int64) (wa : Addr) (x : Int64) (n1 : Int32) : Int32 := n1
set_option maxRecDepth 65536 in
set_option maxHeartbeats 40000000 in
theorem own_cnt_b69 {p : Program} {l : Launch} {e : Env} {R : Room} {s : State} {m : MethodId} {args : Array Value} {below : List Frame} {meth : Method} {c : Code} {T0 : State} {locs : List Loc} {cells slots : Nat} {Z : State} {a0 : Array Value} {h0 : Heap} (ws : List Int64) (wa : Addr) (x : Int64) (n1 : Int32)
    (X0 : Stand p l e R s m args below meth c T0 locs cells slots) (hx : p.tables.exec = Jvm.exec) (hZ : Z.Warmed39 s.vm) (hw : ∀ d ∈ tables_1, d.before a0 Z = true) (hby : c.code = method_2_code) (hml : c.maxLocals = 4) (hown : s.vm.findClass "com/example/intact_keys/intactkeys/check/KeySetPackedValuesPinLaw" = some m.cls) (e0 : T0.heap = h0) (cl : Cell) (Ar : Arr Z h0 wa cl .long) (Sz : cl.slots.size = ws.length) (Hs : ∀ i, i < ws.length → cl.slots[i]? = some (.long (ws.getD i 0))) (hl : ws.length < 2 ^ 31) (F : Int32) (hF : F = own_cnt_f69 ws wa x n1) :
    ∃ (T' : State) (pc' : Nat) (Ls : Array Slot), Stand p l e R s m args below meth c T' locs cells slots ∧ T'.heap = h0 ∧ decode c.code pc' = .ok (.ireturn, 1) ∧
      ∀ target, Steps p.tables e below (T'.setTop (mkF m pc' Ls [.int F])) target → Steps p.tables e below (T0.setTop (mkF m 69 #[.val (.ref wa), .val (.long x), .second, .val (.int n1)] [])) target := by
  have hv : F = n1 := (hF.trans (by rw [own_cnt_f69]))
  refine ⟨T0, 70, #[.val (.ref wa), .val (.long x), .second, .val (.int n1)], X0, e0, (hb hby d10_70), fun target kt => ?_⟩
  rw [hv] at kt
  show Steps p.tables e below (T0.setTop (mkF m 69 #[.val (.ref wa), .val (.long x), .second, .val (.int n1)] [])) _
  refine XS.iloadN X0.here hx rfl (hb hby d10_69) rfl ?_
  show Steps p.tables e below (T0.setTop (mkF m 70 #[.val (.ref wa), .val (.long x), .second, .val (.int n1)] [(.int n1)])) _
  exact kt
def own_cnt_f52 (ws : List Int64) (wa : Addr) (x : Int64) (n1 : Int32) : Int32 := (if (3 : Int32) < ws.length.toInt32 then (if (ws.getD 3 0) = x then (own_cnt_f69 ws wa x (n1 + (1 : Int32))) else (own_cnt_f69 ws wa x n1)) else (own_cnt_f69 ws wa x n1))
set_option maxRecDepth 65536 in
set_option maxHeartbeats 40000000 in
theorem own_cnt_b52 {p : Program} {l : Launch} {e : Env} {R : Room} {s : State} {m : MethodId} {args : Array Value} {below : List Frame} {meth : Method} {c : Code} {T0 : State} {locs : List Loc} {cells slots : Nat} {Z : State} {a0 : Array Value} {h0 : Heap} (ws : List Int64) (wa : Addr) (x : Int64) (n1 : Int32)
    (X0 : Stand p l e R s m args below meth c T0 locs cells slots) (hx : p.tables.exec = Jvm.exec) (hZ : Z.Warmed39 s.vm) (hw : ∀ d ∈ tables_1, d.before a0 Z = true) (hby : c.code = method_2_code) (hml : c.maxLocals = 4) (hown : s.vm.findClass "com/example/intact_keys/intactkeys/check/KeySetPackedValuesPinLaw" = some m.cls) (e0 : T0.heap = h0) (cl : Cell) (Ar : Arr Z h0 wa cl .long) (Sz : cl.slots.size = ws.length) (Hs : ∀ i, i < ws.length → cl.slots[i]? = some (.long (ws.getD i 0))) (hl : ws.length < 2 ^ 31) (F : Int32) (hF : F = own_cnt_f52 ws wa x n1) :
    ∃ (T' : State) (pc' : Nat) (Ls : Array Slot), Stand p l e R s m args below meth c T' locs cells slots ∧ T'.heap = h0 ∧ decode c.code pc' = .ok (.ireturn, 1) ∧
      ∀ target, Steps p.tables e below (T'.setTop (mkF m pc' Ls [.int F])) target → Steps p.tables e below (T0.setTop (mkF m 52 #[.val (.ref wa), .val (.long x), .second, .val (.int n1)] [])) target := by
  by_cases hc55_1 : (3 : Int32) < ws.length.toInt32
  · by_cases hc63_2 : (ws.getD 3 0) = x
    · obtain ⟨T', pc', Ls, X', e', hd', st'⟩ := own_cnt_b69 ws wa x (n1 + (1 : Int32)) X0 hx hZ hw hby hml hown e0 cl Ar Sz Hs hl F (hF.trans (by rw [own_cnt_f52, if_pos hc55_1, if_pos hc63_2]))
      refine ⟨T', pc', Ls, X', e', hd', fun target kt => ?_⟩
      show Steps p.tables e below (T0.setTop (mkF m 52 #[.val (.ref wa), .val (.long x), .second, .val (.int n1)] [])) _
      refine XS.aloadN X0.here hx rfl (hb hby d10_52) rfl rfl ?_
      show Steps p.tables e below (T0.setTop (mkF m 53 #[.val (.ref wa), .val (.long x), .second, .val (.int n1)] [(.ref wa)])) _
      refine X0.arraylength hx (by rw [e0]; exact Ar.1) (State.isArrayOf_alike hZ.alike Ar.2.1) (g := (mkF m 53 #[.val (.ref wa), .val (.long x), .second, .val (.int n1)] [(.ref wa)])) rfl rfl (hb hby d10_53) _ ?_
      rw [Sz]
      show Steps p.tables e below (T0.setTop (mkF m 54 #[.val (.ref wa), .val (.long x), .second, .val (.int n1)] [(.int ws.length.toInt32)])) _
      refine XS.iconst X0.here hx rfl (hb hby d10_54) ?_
      show Steps p.tables e below (T0.setTop (mkF m 55 #[.val (.ref wa), .val (.long x), .second, .val (.int n1)] [(.int (3 : Int32)), (.int ws.length.toInt32)])) _
      refine XS.icmpNo X0.here hx rfl (hb hby d10_55) rfl (tlt hc55_1).2.2.2 ?_
      show Steps p.tables e below (T0.setTop (mkF m 58 #[.val (.ref wa), .val (.long x), .second, .val (.int n1)] [])) _
      refine XS.aloadN X0.here hx rfl (hb hby d10_58) rfl rfl ?_
      show Steps p.tables e below (T0.setTop (mkF m 59 #[.val (.ref wa), .val (.long x), .second, .val (.int n1)] [(.ref wa)])) _
      refine XS.iconst X0.here hx rfl (hb hby d10_59) ?_
      show Steps p.tables e below (T0.setTop (mkF m 60 #[.val (.ref wa), .val (.long x), .second, .val (.int n1)] [(.int (3 : Int32)), (.ref wa)])) _
      refine X0.laload hx (j := (3 : Int32)) (v := (.long (ws.getD 3 0))) (by rw [e0]; exact Ar.1) (State.isArrayOf_alike hZ.alike Ar.2.1) Ar.2.2 (own_rin Sz rfl hl hc55_1 rfl) (Hs 3 (own_rlt rfl hl hc55_1 rfl)) (g := (mkF m 60 #[.val (.ref wa), .val (.long x), .second, .val (.int n1)] [(.int (3 : Int32)), (.ref wa)])) rfl rfl (hb hby d10_60) _ ?_
      show Steps p.tables e below (T0.setTop (mkF m 61 #[.val (.ref wa), .val (.long x), .second, .val (.int n1)] [(.long (ws.getD 3 0))])) _
      refine XS.lloadN X0.here hx rfl (hb hby d10_61) rfl ?_
      show Steps p.tables e below (T0.setTop (mkF m 62 #[.val (.ref wa), .val (.long x), .second, .val (.int n1)] [(.long x), (.long (ws.getD 3 0))])) _
      refine XS.lcmp X0.here hx rfl (hb hby d10_62) rfl ?_
      show Steps p.tables e below (T0.setTop (mkF m 63 #[.val (.ref wa), .val (.long x), .second, .val (.int n1)] [(.int (lcmpW (ws.getD 3 0) x))])) _
      refine XS.ifNo X0.here hx rfl (hb hby d10_63) rfl ((if0 _ _).trans (teq ((lw_eq _ _).mpr hc63_2)).2) ?_
      show Steps p.tables e below (T0.setTop (mkF m 66 #[.val (.ref wa), .val (.long x), .second, .val (.int n1)] [])) _
      refine XS.iinc X0.here hx rfl (hb hby d10_66) rfl (l' := #[.val (.ref wa), .val (.long x), .second, .val (.int (n1 + (1 : Int32)))]) rfl ?_
      exact st' target kt
    · obtain ⟨T', pc', Ls, X', e', hd', st'⟩ := own_cnt_b69 ws wa x n1 X0 hx hZ hw hby hml hown e0 cl Ar Sz Hs hl F (hF.trans (by rw [own_cnt_f52, if_pos hc55_1, if_neg hc63_2]))
      refine ⟨T', pc', Ls, X', e', hd', fun target kt => ?_⟩
      show Steps p.tables e below (T0.setTop (mkF m 52 #[.val (.ref wa), .val (.long x), .second, .val (.int n1)] [])) _
      refine XS.aloadN X0.here hx rfl (hb hby d10_52) rfl rfl ?_
      show Steps p.tables e below (T0.setTop (mkF m 53 #[.val (.ref wa), .val (.long x), .second, .val (.int n1)] [(.ref wa)])) _
      refine X0.arraylength hx (by rw [e0]; exact Ar.1) (State.isArrayOf_alike hZ.alike Ar.2.1) (g := (mkF m 53 #[.val (.ref wa), .val (.long x), .second, .val (.int n1)] [(.ref wa)])) rfl rfl (hb hby d10_53) _ ?_
      rw [Sz]
      show Steps p.tables e below (T0.setTop (mkF m 54 #[.val (.ref wa), .val (.long x), .second, .val (.int n1)] [(.int ws.length.toInt32)])) _
      refine XS.iconst X0.here hx rfl (hb hby d10_54) ?_
      show Steps p.tables e below (T0.setTop (mkF m 55 #[.val (.ref wa), .val (.long x), .second, .val (.int n1)] [(.int (3 : Int32)), (.int ws.length.toInt32)])) _
      refine XS.icmpNo X0.here hx rfl (hb hby d10_55) rfl (tlt hc55_1).2.2.2 ?_
      show Steps p.tables e below (T0.setTop (mkF m 58 #[.val (.ref wa), .val (.long x), .second, .val (.int n1)] [])) _
      refine XS.aloadN X0.here hx rfl (hb hby d10_58) rfl rfl ?_
      show Steps p.tables e below (T0.setTop (mkF m 59 #[.val (.ref wa), .val (.long x), .second, .val (.int n1)] [(.ref wa)])) _
      refine XS.iconst X0.here hx rfl (hb hby d10_59) ?_
      show Steps p.tables e below (T0.setTop (mkF m 60 #[.val (.ref wa), .val (.long x), .second, .val (.int n1)] [(.int (3 : Int32)), (.ref wa)])) _
      refine X0.laload hx (j := (3 : Int32)) (v := (.long (ws.getD 3 0))) (by rw [e0]; exact Ar.1) (State.isArrayOf_alike hZ.alike Ar.2.1) Ar.2.2 (own_rin Sz rfl hl hc55_1 rfl) (Hs 3 (own_rlt rfl hl hc55_1 rfl)) (g := (mkF m 60 #[.val (.ref wa), .val (.long x), .second, .val (.int n1)] [(.int (3 : Int32)), (.ref wa)])) rfl rfl (hb hby d10_60) _ ?_
      show Steps p.tables e below (T0.setTop (mkF m 61 #[.val (.ref wa), .val (.long x), .second, .val (.int n1)] [(.long (ws.getD 3 0))])) _
      refine XS.lloadN X0.here hx rfl (hb hby d10_61) rfl ?_
      show Steps p.tables e below (T0.setTop (mkF m 62 #[.val (.ref wa), .val (.long x), .second, .val (.int n1)] [(.long x), (.long (ws.getD 3 0))])) _
      refine XS.lcmp X0.here hx rfl (hb hby d10_62) rfl ?_
      show Steps p.tables e below (T0.setTop (mkF m 63 #[.val (.ref wa), .val (.long x), .second, .val (.int n1)] [(.int (lcmpW (ws.getD 3 0) x))])) _
      refine XS.ifYes X0.here hx rfl (pc0 := 63) (pc' := 69) rfl (hb hby d10_63) rfl ((if0 _ _).trans (feq (fun z => hc63_2 ((lw_eq _ _).mp z))).2) (by decide) (by decide) ?_
      exact st' target kt
  · obtain ⟨T', pc', Ls, X', e', hd', st'⟩ := own_cnt_b69 ws wa x n1 X0 hx hZ hw hby hml hown e0 cl Ar Sz Hs hl F (hF.trans (by rw [own_cnt_f52, if_neg hc55_1]))
    refine ⟨T', pc', Ls, X', e', hd', fun target kt => ?_⟩
    show Steps p.tables e below (T0.setTop (mkF m 52 #[.val (.ref wa), .val (.long x), .second, .val (.int n1)] [])) _
    refine XS.aloadN X0.here hx rfl (hb hby d10_52) rfl rfl ?_
    show Steps p.tables e below (T0.setTop (mkF m 53 #[.val (.ref wa), .val (.long x), .second, .val (.int n1)] [(.ref wa)])) _
    refine X0.arraylength hx (by rw [e0]; exact Ar.1) (State.isArrayOf_alike hZ.alike Ar.2.1) (g := (mkF m 53 #[.val (.ref wa), .val (.long x), .second, .val (.int n1)] [(.ref wa)])) rfl rfl (hb hby d10_53) _ ?_
    rw [Sz]
    show Steps p.tables e below (T0.setTop (mkF m 54 #[.val (.ref wa), .val (.long x), .second, .val (.int n1)] [(.int ws.length.toInt32)])) _
    refine XS.iconst X0.here hx rfl (hb hby d10_54) ?_
    show Steps p.tables e below (T0.setTop (mkF m 55 #[.val (.ref wa), .val (.long x), .second, .val (.int n1)] [(.int (3 : Int32)), (.int ws.length.toInt32)])) _
    refine XS.icmpYes X0.here hx rfl (pc0 := 55) (pc' := 69) rfl (hb hby d10_55) rfl (flt hc55_1).2.2.2 (by decide) (by decide) ?_
    exact st' target kt
def own_cnt_f35 (ws : List Int64) (wa : Addr) (x : Int64) (n1 : Int32) : Int32 := (if (2 : Int32) < ws.length.toInt32 then (if (ws.getD 2 0) = x then (own_cnt_f52 ws wa x (n1 + (1 : Int32))) else (own_cnt_f52 ws wa x n1)) else (own_cnt_f52 ws wa x n1))
set_option maxRecDepth 65536 in
set_option maxHeartbeats 40000000 in
theorem own_cnt_b35 {p : Program} {l : Launch} {e : Env} {R : Room} {s : State} {m : MethodId} {args : Array Value} {below : List Frame} {meth : Method} {c : Code} {T0 : State} {locs : List Loc} {cells slots : Nat} {Z : State} {a0 : Array Value} {h0 : Heap} (ws : List Int64) (wa : Addr) (x : Int64) (n1 : Int32)
    (X0 : Stand p l e R s m args below meth c T0 locs cells slots) (hx : p.tables.exec = Jvm.exec) (hZ : Z.Warmed39 s.vm) (hw : ∀ d ∈ tables_1, d.before a0 Z = true) (hby : c.code = method_2_code) (hml : c.maxLocals = 4) (hown : s.vm.findClass "com/example/intact_keys/intactkeys/check/KeySetPackedValuesPinLaw" = some m.cls) (e0 : T0.heap = h0) (cl : Cell) (Ar : Arr Z h0 wa cl .long) (Sz : cl.slots.size = ws.length) (Hs : ∀ i, i < ws.length → cl.slots[i]? = some (.long (ws.getD i 0))) (hl : ws.length < 2 ^ 31) (F : Int32) (hF : F = own_cnt_f35 ws wa x n1) :
    ∃ (T' : State) (pc' : Nat) (Ls : Array Slot), Stand p l e R s m args below meth c T' locs cells slots ∧ T'.heap = h0 ∧ decode c.code pc' = .ok (.ireturn, 1) ∧
      ∀ target, Steps p.tables e below (T'.setTop (mkF m pc' Ls [.int F])) target → Steps p.tables e below (T0.setTop (mkF m 35 #[.val (.ref wa), .val (.long x), .second, .val (.int n1)] [])) target := by
  by_cases hc38_1 : (2 : Int32) < ws.length.toInt32
  · by_cases hc46_2 : (ws.getD 2 0) = x
    · obtain ⟨T', pc', Ls, X', e', hd', st'⟩ := own_cnt_b52 ws wa x (n1 + (1 : Int32)) X0 hx hZ hw hby hml hown e0 cl Ar Sz Hs hl F (hF.trans (by rw [own_cnt_f35, if_pos hc38_1, if_pos hc46_2]))
      refine ⟨T', pc', Ls, X', e', hd', fun target kt => ?_⟩
      show Steps p.tables e below (T0.setTop (mkF m 35 #[.val (.ref wa), .val (.long x), .second, .val (.int n1)] [])) _
      refine XS.aloadN X0.here hx rfl (hb hby d10_35) rfl rfl ?_
      show Steps p.tables e below (T0.setTop (mkF m 36 #[.val (.ref wa), .val (.long x), .second, .val (.int n1)] [(.ref wa)])) _
      refine X0.arraylength hx (by rw [e0]; exact Ar.1) (State.isArrayOf_alike hZ.alike Ar.2.1) (g := (mkF m 36 #[.val (.ref wa), .val (.long x), .second, .val (.int n1)] [(.ref wa)])) rfl rfl (hb hby d10_36) _ ?_
      rw [Sz]
      show Steps p.tables e below (T0.setTop (mkF m 37 #[.val (.ref wa), .val (.long x), .second, .val (.int n1)] [(.int ws.length.toInt32)])) _
      refine XS.iconst X0.here hx rfl (hb hby d10_37) ?_
      show Steps p.tables e below (T0.setTop (mkF m 38 #[.val (.ref wa), .val (.long x), .second, .val (.int n1)] [(.int (2 : Int32)), (.int ws.length.toInt32)])) _
      refine XS.icmpNo X0.here hx rfl (hb hby d10_38) rfl (tlt hc38_1).2.2.2 ?_
      show Steps p.tables e below (T0.setTop (mkF m 41 #[.val (.ref wa), .val (.long x), .second, .val (.int n1)] [])) _
      refine XS.aloadN X0.here hx rfl (hb hby d10_41) rfl rfl ?_
      show Steps p.tables e below (T0.setTop (mkF m 42 #[.val (.ref wa), .val (.long x), .second, .val (.int n1)] [(.ref wa)])) _
      refine XS.iconst X0.here hx rfl (hb hby d10_42) ?_
      show Steps p.tables e below (T0.setTop (mkF m 43 #[.val (.ref wa), .val (.long x), .second, .val (.int n1)] [(.int (2 : Int32)), (.ref wa)])) _
      refine X0.laload hx (j := (2 : Int32)) (v := (.long (ws.getD 2 0))) (by rw [e0]; exact Ar.1) (State.isArrayOf_alike hZ.alike Ar.2.1) Ar.2.2 (own_rin Sz rfl hl hc38_1 rfl) (Hs 2 (own_rlt rfl hl hc38_1 rfl)) (g := (mkF m 43 #[.val (.ref wa), .val (.long x), .second, .val (.int n1)] [(.int (2 : Int32)), (.ref wa)])) rfl rfl (hb hby d10_43) _ ?_
      show Steps p.tables e below (T0.setTop (mkF m 44 #[.val (.ref wa), .val (.long x), .second, .val (.int n1)] [(.long (ws.getD 2 0))])) _
      refine XS.lloadN X0.here hx rfl (hb hby d10_44) rfl ?_
      show Steps p.tables e below (T0.setTop (mkF m 45 #[.val (.ref wa), .val (.long x), .second, .val (.int n1)] [(.long x), (.long (ws.getD 2 0))])) _
      refine XS.lcmp X0.here hx rfl (hb hby d10_45) rfl ?_
      show Steps p.tables e below (T0.setTop (mkF m 46 #[.val (.ref wa), .val (.long x), .second, .val (.int n1)] [(.int (lcmpW (ws.getD 2 0) x))])) _
      refine XS.ifNo X0.here hx rfl (hb hby d10_46) rfl ((if0 _ _).trans (teq ((lw_eq _ _).mpr hc46_2)).2) ?_
      show Steps p.tables e below (T0.setTop (mkF m 49 #[.val (.ref wa), .val (.long x), .second, .val (.int n1)] [])) _
      refine XS.iinc X0.here hx rfl (hb hby d10_49) rfl (l' := #[.val (.ref wa), .val (.long x), .second, .val (.int (n1 + (1 : Int32)))]) rfl ?_
      exact st' target kt
    · obtain ⟨T', pc', Ls, X', e', hd', st'⟩ := own_cnt_b52 ws wa x n1 X0 hx hZ hw hby hml hown e0 cl Ar Sz Hs hl F (hF.trans (by rw [own_cnt_f35, if_pos hc38_1, if_neg hc46_2]))
      refine ⟨T', pc', Ls, X', e', hd', fun target kt => ?_⟩
      show Steps p.tables e below (T0.setTop (mkF m 35 #[.val (.ref wa), .val (.long x), .second, .val (.int n1)] [])) _
      refine XS.aloadN X0.here hx rfl (hb hby d10_35) rfl rfl ?_
      show Steps p.tables e below (T0.setTop (mkF m 36 #[.val (.ref wa), .val (.long x), .second, .val (.int n1)] [(.ref wa)])) _
      refine X0.arraylength hx (by rw [e0]; exact Ar.1) (State.isArrayOf_alike hZ.alike Ar.2.1) (g := (mkF m 36 #[.val (.ref wa), .val (.long x), .second, .val (.int n1)] [(.ref wa)])) rfl rfl (hb hby d10_36) _ ?_
      rw [Sz]
      show Steps p.tables e below (T0.setTop (mkF m 37 #[.val (.ref wa), .val (.long x), .second, .val (.int n1)] [(.int ws.length.toInt32)])) _
      refine XS.iconst X0.here hx rfl (hb hby d10_37) ?_
      show Steps p.tables e below (T0.setTop (mkF m 38 #[.val (.ref wa), .val (.long x), .second, .val (.int n1)] [(.int (2 : Int32)), (.int ws.length.toInt32)])) _
      refine XS.icmpNo X0.here hx rfl (hb hby d10_38) rfl (tlt hc38_1).2.2.2 ?_
      show Steps p.tables e below (T0.setTop (mkF m 41 #[.val (.ref wa), .val (.long x), .second, .val (.int n1)] [])) _
      refine XS.aloadN X0.here hx rfl (hb hby d10_41) rfl rfl ?_
      show Steps p.tables e below (T0.setTop (mkF m 42 #[.val (.ref wa), .val (.long x), .second, .val (.int n1)] [(.ref wa)])) _
      refine XS.iconst X0.here hx rfl (hb hby d10_42) ?_
      show Steps p.tables e below (T0.setTop (mkF m 43 #[.val (.ref wa), .val (.long x), .second, .val (.int n1)] [(.int (2 : Int32)), (.ref wa)])) _
      refine X0.laload hx (j := (2 : Int32)) (v := (.long (ws.getD 2 0))) (by rw [e0]; exact Ar.1) (State.isArrayOf_alike hZ.alike Ar.2.1) Ar.2.2 (own_rin Sz rfl hl hc38_1 rfl) (Hs 2 (own_rlt rfl hl hc38_1 rfl)) (g := (mkF m 43 #[.val (.ref wa), .val (.long x), .second, .val (.int n1)] [(.int (2 : Int32)), (.ref wa)])) rfl rfl (hb hby d10_43) _ ?_
      show Steps p.tables e below (T0.setTop (mkF m 44 #[.val (.ref wa), .val (.long x), .second, .val (.int n1)] [(.long (ws.getD 2 0))])) _
      refine XS.lloadN X0.here hx rfl (hb hby d10_44) rfl ?_
      show Steps p.tables e below (T0.setTop (mkF m 45 #[.val (.ref wa), .val (.long x), .second, .val (.int n1)] [(.long x), (.long (ws.getD 2 0))])) _
      refine XS.lcmp X0.here hx rfl (hb hby d10_45) rfl ?_
      show Steps p.tables e below (T0.setTop (mkF m 46 #[.val (.ref wa), .val (.long x), .second, .val (.int n1)] [(.int (lcmpW (ws.getD 2 0) x))])) _
      refine XS.ifYes X0.here hx rfl (pc0 := 46) (pc' := 52) rfl (hb hby d10_46) rfl ((if0 _ _).trans (feq (fun z => hc46_2 ((lw_eq _ _).mp z))).2) (by decide) (by decide) ?_
      exact st' target kt
  · obtain ⟨T', pc', Ls, X', e', hd', st'⟩ := own_cnt_b52 ws wa x n1 X0 hx hZ hw hby hml hown e0 cl Ar Sz Hs hl F (hF.trans (by rw [own_cnt_f35, if_neg hc38_1]))
    refine ⟨T', pc', Ls, X', e', hd', fun target kt => ?_⟩
    show Steps p.tables e below (T0.setTop (mkF m 35 #[.val (.ref wa), .val (.long x), .second, .val (.int n1)] [])) _
    refine XS.aloadN X0.here hx rfl (hb hby d10_35) rfl rfl ?_
    show Steps p.tables e below (T0.setTop (mkF m 36 #[.val (.ref wa), .val (.long x), .second, .val (.int n1)] [(.ref wa)])) _
    refine X0.arraylength hx (by rw [e0]; exact Ar.1) (State.isArrayOf_alike hZ.alike Ar.2.1) (g := (mkF m 36 #[.val (.ref wa), .val (.long x), .second, .val (.int n1)] [(.ref wa)])) rfl rfl (hb hby d10_36) _ ?_
    rw [Sz]
    show Steps p.tables e below (T0.setTop (mkF m 37 #[.val (.ref wa), .val (.long x), .second, .val (.int n1)] [(.int ws.length.toInt32)])) _
    refine XS.iconst X0.here hx rfl (hb hby d10_37) ?_
    show Steps p.tables e below (T0.setTop (mkF m 38 #[.val (.ref wa), .val (.long x), .second, .val (.int n1)] [(.int (2 : Int32)), (.int ws.length.toInt32)])) _
    refine XS.icmpYes X0.here hx rfl (pc0 := 38) (pc' := 52) rfl (hb hby d10_38) rfl (flt hc38_1).2.2.2 (by decide) (by decide) ?_
    exact st' target kt
def own_cnt_f18 (ws : List Int64) (wa : Addr) (x : Int64) (n1 : Int32) : Int32 := (if (1 : Int32) < ws.length.toInt32 then (if (ws.getD 1 0) = x then (own_cnt_f35 ws wa x (n1 + (1 : Int32))) else (own_cnt_f35 ws wa x n1)) else (own_cnt_f35 ws wa x n1))
set_option maxRecDepth 65536 in
set_option maxHeartbeats 40000000 in
theorem own_cnt_b18 {p : Program} {l : Launch} {e : Env} {R : Room} {s : State} {m : MethodId} {args : Array Value} {below : List Frame} {meth : Method} {c : Code} {T0 : State} {locs : List Loc} {cells slots : Nat} {Z : State} {a0 : Array Value} {h0 : Heap} (ws : List Int64) (wa : Addr) (x : Int64) (n1 : Int32)
    (X0 : Stand p l e R s m args below meth c T0 locs cells slots) (hx : p.tables.exec = Jvm.exec) (hZ : Z.Warmed39 s.vm) (hw : ∀ d ∈ tables_1, d.before a0 Z = true) (hby : c.code = method_2_code) (hml : c.maxLocals = 4) (hown : s.vm.findClass "com/example/intact_keys/intactkeys/check/KeySetPackedValuesPinLaw" = some m.cls) (e0 : T0.heap = h0) (cl : Cell) (Ar : Arr Z h0 wa cl .long) (Sz : cl.slots.size = ws.length) (Hs : ∀ i, i < ws.length → cl.slots[i]? = some (.long (ws.getD i 0))) (hl : ws.length < 2 ^ 31) (F : Int32) (hF : F = own_cnt_f18 ws wa x n1) :
    ∃ (T' : State) (pc' : Nat) (Ls : Array Slot), Stand p l e R s m args below meth c T' locs cells slots ∧ T'.heap = h0 ∧ decode c.code pc' = .ok (.ireturn, 1) ∧
      ∀ target, Steps p.tables e below (T'.setTop (mkF m pc' Ls [.int F])) target → Steps p.tables e below (T0.setTop (mkF m 18 #[.val (.ref wa), .val (.long x), .second, .val (.int n1)] [])) target := by
  by_cases hc21_1 : (1 : Int32) < ws.length.toInt32
  · by_cases hc29_2 : (ws.getD 1 0) = x
    · obtain ⟨T', pc', Ls, X', e', hd', st'⟩ := own_cnt_b35 ws wa x (n1 + (1 : Int32)) X0 hx hZ hw hby hml hown e0 cl Ar Sz Hs hl F (hF.trans (by rw [own_cnt_f18, if_pos hc21_1, if_pos hc29_2]))
      refine ⟨T', pc', Ls, X', e', hd', fun target kt => ?_⟩
      show Steps p.tables e below (T0.setTop (mkF m 18 #[.val (.ref wa), .val (.long x), .second, .val (.int n1)] [])) _
      refine XS.aloadN X0.here hx rfl (hb hby d10_18) rfl rfl ?_
      show Steps p.tables e below (T0.setTop (mkF m 19 #[.val (.ref wa), .val (.long x), .second, .val (.int n1)] [(.ref wa)])) _
      refine X0.arraylength hx (by rw [e0]; exact Ar.1) (State.isArrayOf_alike hZ.alike Ar.2.1) (g := (mkF m 19 #[.val (.ref wa), .val (.long x), .second, .val (.int n1)] [(.ref wa)])) rfl rfl (hb hby d10_19) _ ?_
      rw [Sz]
      show Steps p.tables e below (T0.setTop (mkF m 20 #[.val (.ref wa), .val (.long x), .second, .val (.int n1)] [(.int ws.length.toInt32)])) _
      refine XS.iconst X0.here hx rfl (hb hby d10_20) ?_
      show Steps p.tables e below (T0.setTop (mkF m 21 #[.val (.ref wa), .val (.long x), .second, .val (.int n1)] [(.int (1 : Int32)), (.int ws.length.toInt32)])) _
      refine XS.icmpNo X0.here hx rfl (hb hby d10_21) rfl (tlt hc21_1).2.2.2 ?_
      show Steps p.tables e below (T0.setTop (mkF m 24 #[.val (.ref wa), .val (.long x), .second, .val (.int n1)] [])) _
      refine XS.aloadN X0.here hx rfl (hb hby d10_24) rfl rfl ?_
      show Steps p.tables e below (T0.setTop (mkF m 25 #[.val (.ref wa), .val (.long x), .second, .val (.int n1)] [(.ref wa)])) _
      refine XS.iconst X0.here hx rfl (hb hby d10_25) ?_
      show Steps p.tables e below (T0.setTop (mkF m 26 #[.val (.ref wa), .val (.long x), .second, .val (.int n1)] [(.int (1 : Int32)), (.ref wa)])) _
      refine X0.laload hx (j := (1 : Int32)) (v := (.long (ws.getD 1 0))) (by rw [e0]; exact Ar.1) (State.isArrayOf_alike hZ.alike Ar.2.1) Ar.2.2 (own_rin Sz rfl hl hc21_1 rfl) (Hs 1 (own_rlt rfl hl hc21_1 rfl)) (g := (mkF m 26 #[.val (.ref wa), .val (.long x), .second, .val (.int n1)] [(.int (1 : Int32)), (.ref wa)])) rfl rfl (hb hby d10_26) _ ?_
      show Steps p.tables e below (T0.setTop (mkF m 27 #[.val (.ref wa), .val (.long x), .second, .val (.int n1)] [(.long (ws.getD 1 0))])) _
      refine XS.lloadN X0.here hx rfl (hb hby d10_27) rfl ?_
      show Steps p.tables e below (T0.setTop (mkF m 28 #[.val (.ref wa), .val (.long x), .second, .val (.int n1)] [(.long x), (.long (ws.getD 1 0))])) _
      refine XS.lcmp X0.here hx rfl (hb hby d10_28) rfl ?_
      show Steps p.tables e below (T0.setTop (mkF m 29 #[.val (.ref wa), .val (.long x), .second, .val (.int n1)] [(.int (lcmpW (ws.getD 1 0) x))])) _
      refine XS.ifNo X0.here hx rfl (hb hby d10_29) rfl ((if0 _ _).trans (teq ((lw_eq _ _).mpr hc29_2)).2) ?_
      show Steps p.tables e below (T0.setTop (mkF m 32 #[.val (.ref wa), .val (.long x), .second, .val (.int n1)] [])) _
      refine XS.iinc X0.here hx rfl (hb hby d10_32) rfl (l' := #[.val (.ref wa), .val (.long x), .second, .val (.int (n1 + (1 : Int32)))]) rfl ?_
      exact st' target kt
    · obtain ⟨T', pc', Ls, X', e', hd', st'⟩ := own_cnt_b35 ws wa x n1 X0 hx hZ hw hby hml hown e0 cl Ar Sz Hs hl F (hF.trans (by rw [own_cnt_f18, if_pos hc21_1, if_neg hc29_2]))
      refine ⟨T', pc', Ls, X', e', hd', fun target kt => ?_⟩
      show Steps p.tables e below (T0.setTop (mkF m 18 #[.val (.ref wa), .val (.long x), .second, .val (.int n1)] [])) _
      refine XS.aloadN X0.here hx rfl (hb hby d10_18) rfl rfl ?_
      show Steps p.tables e below (T0.setTop (mkF m 19 #[.val (.ref wa), .val (.long x), .second, .val (.int n1)] [(.ref wa)])) _
      refine X0.arraylength hx (by rw [e0]; exact Ar.1) (State.isArrayOf_alike hZ.alike Ar.2.1) (g := (mkF m 19 #[.val (.ref wa), .val (.long x), .second, .val (.int n1)] [(.ref wa)])) rfl rfl (hb hby d10_19) _ ?_
      rw [Sz]
      show Steps p.tables e below (T0.setTop (mkF m 20 #[.val (.ref wa), .val (.long x), .second, .val (.int n1)] [(.int ws.length.toInt32)])) _
      refine XS.iconst X0.here hx rfl (hb hby d10_20) ?_
      show Steps p.tables e below (T0.setTop (mkF m 21 #[.val (.ref wa), .val (.long x), .second, .val (.int n1)] [(.int (1 : Int32)), (.int ws.length.toInt32)])) _
      refine XS.icmpNo X0.here hx rfl (hb hby d10_21) rfl (tlt hc21_1).2.2.2 ?_
      show Steps p.tables e below (T0.setTop (mkF m 24 #[.val (.ref wa), .val (.long x), .second, .val (.int n1)] [])) _
      refine XS.aloadN X0.here hx rfl (hb hby d10_24) rfl rfl ?_
      show Steps p.tables e below (T0.setTop (mkF m 25 #[.val (.ref wa), .val (.long x), .second, .val (.int n1)] [(.ref wa)])) _
      refine XS.iconst X0.here hx rfl (hb hby d10_25) ?_
      show Steps p.tables e below (T0.setTop (mkF m 26 #[.val (.ref wa), .val (.long x), .second, .val (.int n1)] [(.int (1 : Int32)), (.ref wa)])) _
      refine X0.laload hx (j := (1 : Int32)) (v := (.long (ws.getD 1 0))) (by rw [e0]; exact Ar.1) (State.isArrayOf_alike hZ.alike Ar.2.1) Ar.2.2 (own_rin Sz rfl hl hc21_1 rfl) (Hs 1 (own_rlt rfl hl hc21_1 rfl)) (g := (mkF m 26 #[.val (.ref wa), .val (.long x), .second, .val (.int n1)] [(.int (1 : Int32)), (.ref wa)])) rfl rfl (hb hby d10_26) _ ?_
      show Steps p.tables e below (T0.setTop (mkF m 27 #[.val (.ref wa), .val (.long x), .second, .val (.int n1)] [(.long (ws.getD 1 0))])) _
      refine XS.lloadN X0.here hx rfl (hb hby d10_27) rfl ?_
      show Steps p.tables e below (T0.setTop (mkF m 28 #[.val (.ref wa), .val (.long x), .second, .val (.int n1)] [(.long x), (.long (ws.getD 1 0))])) _
      refine XS.lcmp X0.here hx rfl (hb hby d10_28) rfl ?_
      show Steps p.tables e below (T0.setTop (mkF m 29 #[.val (.ref wa), .val (.long x), .second, .val (.int n1)] [(.int (lcmpW (ws.getD 1 0) x))])) _
      refine XS.ifYes X0.here hx rfl (pc0 := 29) (pc' := 35) rfl (hb hby d10_29) rfl ((if0 _ _).trans (feq (fun z => hc29_2 ((lw_eq _ _).mp z))).2) (by decide) (by decide) ?_
      exact st' target kt
  · obtain ⟨T', pc', Ls, X', e', hd', st'⟩ := own_cnt_b35 ws wa x n1 X0 hx hZ hw hby hml hown e0 cl Ar Sz Hs hl F (hF.trans (by rw [own_cnt_f18, if_neg hc21_1]))
    refine ⟨T', pc', Ls, X', e', hd', fun target kt => ?_⟩
    show Steps p.tables e below (T0.setTop (mkF m 18 #[.val (.ref wa), .val (.long x), .second, .val (.int n1)] [])) _
    refine XS.aloadN X0.here hx rfl (hb hby d10_18) rfl rfl ?_
    show Steps p.tables e below (T0.setTop (mkF m 19 #[.val (.ref wa), .val (.long x), .second, .val (.int n1)] [(.ref wa)])) _
    refine X0.arraylength hx (by rw [e0]; exact Ar.1) (State.isArrayOf_alike hZ.alike Ar.2.1) (g := (mkF m 19 #[.val (.ref wa), .val (.long x), .second, .val (.int n1)] [(.ref wa)])) rfl rfl (hb hby d10_19) _ ?_
    rw [Sz]
    show Steps p.tables e below (T0.setTop (mkF m 20 #[.val (.ref wa), .val (.long x), .second, .val (.int n1)] [(.int ws.length.toInt32)])) _
    refine XS.iconst X0.here hx rfl (hb hby d10_20) ?_
    show Steps p.tables e below (T0.setTop (mkF m 21 #[.val (.ref wa), .val (.long x), .second, .val (.int n1)] [(.int (1 : Int32)), (.int ws.length.toInt32)])) _
    refine XS.icmpYes X0.here hx rfl (pc0 := 21) (pc' := 35) rfl (hb hby d10_21) rfl (flt hc21_1).2.2.2 (by decide) (by decide) ?_
    exact st' target kt
def own_cnt_f0 (ws : List Int64) (wa : Addr) (x : Int64) : Int32 := (if (0 : Int32) < ws.length.toInt32 then (if (ws.getD 0 0) = x then (own_cnt_f18 ws wa x ((0 : Int32) + (1 : Int32))) else (own_cnt_f18 ws wa x (0 : Int32))) else (own_cnt_f18 ws wa x (0 : Int32)))
set_option maxRecDepth 65536 in
set_option maxHeartbeats 40000000 in
theorem own_cnt_b0 {p : Program} {l : Launch} {e : Env} {R : Room} {s : State} {m : MethodId} {args : Array Value} {below : List Frame} {meth : Method} {c : Code} {T0 : State} {locs : List Loc} {cells slots : Nat} {Z : State} {a0 : Array Value} {h0 : Heap} (ws : List Int64) (wa : Addr) (x : Int64)
    (X0 : Stand p l e R s m args below meth c T0 locs cells slots) (hx : p.tables.exec = Jvm.exec) (hZ : Z.Warmed39 s.vm) (hw : ∀ d ∈ tables_1, d.before a0 Z = true) (hby : c.code = method_2_code) (hml : c.maxLocals = 4) (hown : s.vm.findClass "com/example/intact_keys/intactkeys/check/KeySetPackedValuesPinLaw" = some m.cls) (e0 : T0.heap = h0) (cl : Cell) (Ar : Arr Z h0 wa cl .long) (Sz : cl.slots.size = ws.length) (Hs : ∀ i, i < ws.length → cl.slots[i]? = some (.long (ws.getD i 0))) (hl : ws.length < 2 ^ 31) (F : Int32) (hF : F = own_cnt_f0 ws wa x ) :
    ∃ (T' : State) (pc' : Nat) (Ls : Array Slot), Stand p l e R s m args below meth c T' locs cells slots ∧ T'.heap = h0 ∧ decode c.code pc' = .ok (.ireturn, 1) ∧
      ∀ target, Steps p.tables e below (T'.setTop (mkF m pc' Ls [.int F])) target → Steps p.tables e below (T0.setTop (mkF m 0 #[.val (.ref wa), .val (.long x), .second, .unset] [])) target := by
  by_cases hc4_1 : (0 : Int32) < ws.length.toInt32
  · by_cases hc12_2 : (ws.getD 0 0) = x
    · obtain ⟨T', pc', Ls, X', e', hd', st'⟩ := own_cnt_b18 ws wa x ((0 : Int32) + (1 : Int32)) X0 hx hZ hw hby hml hown e0 cl Ar Sz Hs hl F (hF.trans (by rw [own_cnt_f0, if_pos hc4_1, if_pos hc12_2]))
      refine ⟨T', pc', Ls, X', e', hd', fun target kt => ?_⟩
      show Steps p.tables e below (T0.setTop (mkF m 0 #[.val (.ref wa), .val (.long x), .second, .unset] [])) _
      refine XS.iconst X0.here hx rfl (hb hby d10_0) ?_
      show Steps p.tables e below (T0.setTop (mkF m 1 #[.val (.ref wa), .val (.long x), .second, .unset] [(.int (0 : Int32))])) _
      refine XS.istoreN X0.here hx rfl (hb hby d10_1) rfl (l' := #[.val (.ref wa), .val (.long x), .second, .val (.int (0 : Int32))]) rfl ?_
      show Steps p.tables e below (T0.setTop (mkF m 2 #[.val (.ref wa), .val (.long x), .second, .val (.int (0 : Int32))] [])) _
      refine XS.aloadN X0.here hx rfl (hb hby d10_2) rfl rfl ?_
      show Steps p.tables e below (T0.setTop (mkF m 3 #[.val (.ref wa), .val (.long x), .second, .val (.int (0 : Int32))] [(.ref wa)])) _
      refine X0.arraylength hx (by rw [e0]; exact Ar.1) (State.isArrayOf_alike hZ.alike Ar.2.1) (g := (mkF m 3 #[.val (.ref wa), .val (.long x), .second, .val (.int (0 : Int32))] [(.ref wa)])) rfl rfl (hb hby d10_3) _ ?_
      rw [Sz]
      show Steps p.tables e below (T0.setTop (mkF m 4 #[.val (.ref wa), .val (.long x), .second, .val (.int (0 : Int32))] [(.int ws.length.toInt32)])) _
      refine XS.ifNo X0.here hx rfl (hb hby d10_4) rfl ((if0 _ _).trans (tlt hc4_1).2.2.2) ?_
      show Steps p.tables e below (T0.setTop (mkF m 7 #[.val (.ref wa), .val (.long x), .second, .val (.int (0 : Int32))] [])) _
      refine XS.aloadN X0.here hx rfl (hb hby d10_7) rfl rfl ?_
      show Steps p.tables e below (T0.setTop (mkF m 8 #[.val (.ref wa), .val (.long x), .second, .val (.int (0 : Int32))] [(.ref wa)])) _
      refine XS.iconst X0.here hx rfl (hb hby d10_8) ?_
      show Steps p.tables e below (T0.setTop (mkF m 9 #[.val (.ref wa), .val (.long x), .second, .val (.int (0 : Int32))] [(.int (0 : Int32)), (.ref wa)])) _
      refine X0.laload hx (j := (0 : Int32)) (v := (.long (ws.getD 0 0))) (by rw [e0]; exact Ar.1) (State.isArrayOf_alike hZ.alike Ar.2.1) Ar.2.2 (own_rin Sz rfl hl hc4_1 rfl) (Hs 0 (own_rlt rfl hl hc4_1 rfl)) (g := (mkF m 9 #[.val (.ref wa), .val (.long x), .second, .val (.int (0 : Int32))] [(.int (0 : Int32)), (.ref wa)])) rfl rfl (hb hby d10_9) _ ?_
      show Steps p.tables e below (T0.setTop (mkF m 10 #[.val (.ref wa), .val (.long x), .second, .val (.int (0 : Int32))] [(.long (ws.getD 0 0))])) _
      refine XS.lloadN X0.here hx rfl (hb hby d10_10) rfl ?_
      show Steps p.tables e below (T0.setTop (mkF m 11 #[.val (.ref wa), .val (.long x), .second, .val (.int (0 : Int32))] [(.long x), (.long (ws.getD 0 0))])) _
      refine XS.lcmp X0.here hx rfl (hb hby d10_11) rfl ?_
      show Steps p.tables e below (T0.setTop (mkF m 12 #[.val (.ref wa), .val (.long x), .second, .val (.int (0 : Int32))] [(.int (lcmpW (ws.getD 0 0) x))])) _
      refine XS.ifNo X0.here hx rfl (hb hby d10_12) rfl ((if0 _ _).trans (teq ((lw_eq _ _).mpr hc12_2)).2) ?_
      show Steps p.tables e below (T0.setTop (mkF m 15 #[.val (.ref wa), .val (.long x), .second, .val (.int (0 : Int32))] [])) _
      refine XS.iinc X0.here hx rfl (hb hby d10_15) rfl (l' := #[.val (.ref wa), .val (.long x), .second, .val (.int ((0 : Int32) + (1 : Int32)))]) rfl ?_
      exact st' target kt
    · obtain ⟨T', pc', Ls, X', e', hd', st'⟩ := own_cnt_b18 ws wa x (0 : Int32) X0 hx hZ hw hby hml hown e0 cl Ar Sz Hs hl F (hF.trans (by rw [own_cnt_f0, if_pos hc4_1, if_neg hc12_2]))
      refine ⟨T', pc', Ls, X', e', hd', fun target kt => ?_⟩
      show Steps p.tables e below (T0.setTop (mkF m 0 #[.val (.ref wa), .val (.long x), .second, .unset] [])) _
      refine XS.iconst X0.here hx rfl (hb hby d10_0) ?_
      show Steps p.tables e below (T0.setTop (mkF m 1 #[.val (.ref wa), .val (.long x), .second, .unset] [(.int (0 : Int32))])) _
      refine XS.istoreN X0.here hx rfl (hb hby d10_1) rfl (l' := #[.val (.ref wa), .val (.long x), .second, .val (.int (0 : Int32))]) rfl ?_
      show Steps p.tables e below (T0.setTop (mkF m 2 #[.val (.ref wa), .val (.long x), .second, .val (.int (0 : Int32))] [])) _
      refine XS.aloadN X0.here hx rfl (hb hby d10_2) rfl rfl ?_
      show Steps p.tables e below (T0.setTop (mkF m 3 #[.val (.ref wa), .val (.long x), .second, .val (.int (0 : Int32))] [(.ref wa)])) _
      refine X0.arraylength hx (by rw [e0]; exact Ar.1) (State.isArrayOf_alike hZ.alike Ar.2.1) (g := (mkF m 3 #[.val (.ref wa), .val (.long x), .second, .val (.int (0 : Int32))] [(.ref wa)])) rfl rfl (hb hby d10_3) _ ?_
      rw [Sz]
      show Steps p.tables e below (T0.setTop (mkF m 4 #[.val (.ref wa), .val (.long x), .second, .val (.int (0 : Int32))] [(.int ws.length.toInt32)])) _
      refine XS.ifNo X0.here hx rfl (hb hby d10_4) rfl ((if0 _ _).trans (tlt hc4_1).2.2.2) ?_
      show Steps p.tables e below (T0.setTop (mkF m 7 #[.val (.ref wa), .val (.long x), .second, .val (.int (0 : Int32))] [])) _
      refine XS.aloadN X0.here hx rfl (hb hby d10_7) rfl rfl ?_
      show Steps p.tables e below (T0.setTop (mkF m 8 #[.val (.ref wa), .val (.long x), .second, .val (.int (0 : Int32))] [(.ref wa)])) _
      refine XS.iconst X0.here hx rfl (hb hby d10_8) ?_
      show Steps p.tables e below (T0.setTop (mkF m 9 #[.val (.ref wa), .val (.long x), .second, .val (.int (0 : Int32))] [(.int (0 : Int32)), (.ref wa)])) _
      refine X0.laload hx (j := (0 : Int32)) (v := (.long (ws.getD 0 0))) (by rw [e0]; exact Ar.1) (State.isArrayOf_alike hZ.alike Ar.2.1) Ar.2.2 (own_rin Sz rfl hl hc4_1 rfl) (Hs 0 (own_rlt rfl hl hc4_1 rfl)) (g := (mkF m 9 #[.val (.ref wa), .val (.long x), .second, .val (.int (0 : Int32))] [(.int (0 : Int32)), (.ref wa)])) rfl rfl (hb hby d10_9) _ ?_
      show Steps p.tables e below (T0.setTop (mkF m 10 #[.val (.ref wa), .val (.long x), .second, .val (.int (0 : Int32))] [(.long (ws.getD 0 0))])) _
      refine XS.lloadN X0.here hx rfl (hb hby d10_10) rfl ?_
      show Steps p.tables e below (T0.setTop (mkF m 11 #[.val (.ref wa), .val (.long x), .second, .val (.int (0 : Int32))] [(.long x), (.long (ws.getD 0 0))])) _
      refine XS.lcmp X0.here hx rfl (hb hby d10_11) rfl ?_
      show Steps p.tables e below (T0.setTop (mkF m 12 #[.val (.ref wa), .val (.long x), .second, .val (.int (0 : Int32))] [(.int (lcmpW (ws.getD 0 0) x))])) _
      refine XS.ifYes X0.here hx rfl (pc0 := 12) (pc' := 18) rfl (hb hby d10_12) rfl ((if0 _ _).trans (feq (fun z => hc12_2 ((lw_eq _ _).mp z))).2) (by decide) (by decide) ?_
      exact st' target kt
  · obtain ⟨T', pc', Ls, X', e', hd', st'⟩ := own_cnt_b18 ws wa x (0 : Int32) X0 hx hZ hw hby hml hown e0 cl Ar Sz Hs hl F (hF.trans (by rw [own_cnt_f0, if_neg hc4_1]))
    refine ⟨T', pc', Ls, X', e', hd', fun target kt => ?_⟩
    show Steps p.tables e below (T0.setTop (mkF m 0 #[.val (.ref wa), .val (.long x), .second, .unset] [])) _
    refine XS.iconst X0.here hx rfl (hb hby d10_0) ?_
    show Steps p.tables e below (T0.setTop (mkF m 1 #[.val (.ref wa), .val (.long x), .second, .unset] [(.int (0 : Int32))])) _
    refine XS.istoreN X0.here hx rfl (hb hby d10_1) rfl (l' := #[.val (.ref wa), .val (.long x), .second, .val (.int (0 : Int32))]) rfl ?_
    show Steps p.tables e below (T0.setTop (mkF m 2 #[.val (.ref wa), .val (.long x), .second, .val (.int (0 : Int32))] [])) _
    refine XS.aloadN X0.here hx rfl (hb hby d10_2) rfl rfl ?_
    show Steps p.tables e below (T0.setTop (mkF m 3 #[.val (.ref wa), .val (.long x), .second, .val (.int (0 : Int32))] [(.ref wa)])) _
    refine X0.arraylength hx (by rw [e0]; exact Ar.1) (State.isArrayOf_alike hZ.alike Ar.2.1) (g := (mkF m 3 #[.val (.ref wa), .val (.long x), .second, .val (.int (0 : Int32))] [(.ref wa)])) rfl rfl (hb hby d10_3) _ ?_
    rw [Sz]
    show Steps p.tables e below (T0.setTop (mkF m 4 #[.val (.ref wa), .val (.long x), .second, .val (.int (0 : Int32))] [(.int ws.length.toInt32)])) _
    refine XS.ifYes X0.here hx rfl (pc0 := 4) (pc' := 18) rfl (hb hby d10_4) rfl ((if0 _ _).trans (flt hc4_1).2.2.2) (by decide) (by decide) ?_
    exact st' target kt
theorem own_cnt_one (ws : List Int64) (wa : Addr) (x : Int64) (hl : ws.length ≤ 4) (nd : ws.Nodup) (hm : x ∈ ws) : own_cnt_f0 ws wa x = 1 := by
  match ws, hl, nd, hm with
  | [], _, nd, hm => simp at hm
  | [a], _, nd, hm =>
    have e0 : (0 : Int32) < (1 : Nat).toInt32 := by decide
    have e1 : ¬ (1 : Int32) < (1 : Nat).toInt32 := by decide
    have e2 : ¬ (2 : Int32) < (1 : Nat).toInt32 := by decide
    have e3 : ¬ (3 : Int32) < (1 : Nat).toInt32 := by decide
    change own_cnt_f0 [a] wa x = _
    have el : [a].length.toInt32 = (1 : Nat).toInt32 := rfl
    simp only [List.nodup_cons, List.mem_cons, List.not_mem_nil, or_false, not_or, List.nodup_nil, and_true, not_false_eq_true] at nd hm
    simp only [own_cnt_f0, own_cnt_f18, own_cnt_f35, own_cnt_f52, own_cnt_f69, el, e0, e1, e2, e3, if_true, if_false, List.getD_cons_zero, List.getD_cons_succ]
    subst hm
    simp
  | [a, b], _, nd, hm =>
    have e0 : (0 : Int32) < (2 : Nat).toInt32 := by decide
    have e1 : (1 : Int32) < (2 : Nat).toInt32 := by decide
    have e2 : ¬ (2 : Int32) < (2 : Nat).toInt32 := by decide
    have e3 : ¬ (3 : Int32) < (2 : Nat).toInt32 := by decide
    change own_cnt_f0 [a, b] wa x = _
    have el : [a, b].length.toInt32 = (2 : Nat).toInt32 := rfl
    simp only [List.nodup_cons, List.mem_cons, List.not_mem_nil, or_false, not_or, List.nodup_nil, and_true, not_false_eq_true] at nd hm
    simp only [own_cnt_f0, own_cnt_f18, own_cnt_f35, own_cnt_f52, own_cnt_f69, el, e0, e1, e2, e3, if_true, if_false, List.getD_cons_zero, List.getD_cons_succ]
    rcases hm with rfl | rfl
    · simp_all [eq_comm]
    · simp_all [eq_comm]
  | [a, b, d], _, nd, hm =>
    have e0 : (0 : Int32) < (3 : Nat).toInt32 := by decide
    have e1 : (1 : Int32) < (3 : Nat).toInt32 := by decide
    have e2 : (2 : Int32) < (3 : Nat).toInt32 := by decide
    have e3 : ¬ (3 : Int32) < (3 : Nat).toInt32 := by decide
    change own_cnt_f0 [a, b, d] wa x = _
    have el : [a, b, d].length.toInt32 = (3 : Nat).toInt32 := rfl
    simp only [List.nodup_cons, List.mem_cons, List.not_mem_nil, or_false, not_or, List.nodup_nil, and_true, not_false_eq_true] at nd hm
    simp only [own_cnt_f0, own_cnt_f18, own_cnt_f35, own_cnt_f52, own_cnt_f69, el, e0, e1, e2, e3, if_true, if_false, List.getD_cons_zero, List.getD_cons_succ]
    rcases hm with rfl | rfl | rfl
    · simp_all [eq_comm]
    · simp_all [eq_comm]
    · simp_all [eq_comm]
  | [a, b, d, f], _, nd, hm =>
    have e0 : (0 : Int32) < (4 : Nat).toInt32 := by decide
    have e1 : (1 : Int32) < (4 : Nat).toInt32 := by decide
    have e2 : (2 : Int32) < (4 : Nat).toInt32 := by decide
    have e3 : (3 : Int32) < (4 : Nat).toInt32 := by decide
    change own_cnt_f0 [a, b, d, f] wa x = _
    have el : [a, b, d, f].length.toInt32 = (4 : Nat).toInt32 := rfl
    simp only [List.nodup_cons, List.mem_cons, List.not_mem_nil, or_false, not_or, List.nodup_nil, and_true, not_false_eq_true] at nd hm
    simp only [own_cnt_f0, own_cnt_f18, own_cnt_f35, own_cnt_f52, own_cnt_f69, el, e0, e1, e2, e3, if_true, if_false, List.getD_cons_zero, List.getD_cons_succ]
    rcases hm with rfl | rfl | rfl | rfl
    · simp_all [eq_comm]
    · simp_all [eq_comm]
    · simp_all [eq_comm]
    · simp_all [eq_comm]
theorem ef_10 (m : MethodId) (x0 : Addr) (x1 : Int64) : entryFrame m #[(.ref x0), (.long x1)] 4 = mkF m 0 #[.val (.ref x0), .val (.long x1), .second, .unset] [] := by first | (simp [entryFrame, mkF, argsToLocals, Value.category]; done) | rfl
def Q10 (wa : Addr) (x : Int64) (ws : List Int64) (h0 : Heap) (n0 : Nat) (vv : Option Value) (h : Heap) (L : List Loc) : Prop := vv = some (.int 1) ∧ Fr n0 L ∧ h = h0
set_option maxRecDepth 65536 in
set_option maxHeartbeats 40000000 in
theorem rm10 (l : Launch) (Z : State) (a0 : Array Value) (hw : ∀ d ∈ tables_1, d.before a0 Z = true) (ws' : List Jvm.Cond) (wa : Addr) (x : Int64) (ws : List Int64) (h0 : Heap) (n0 : Nat) (Z0 : n0 ≤ h0.size) (A : own_J Z h0 wa ws) (hl : ws.length ≤ 4) (nd : ws.Nodup) (hm : x ∈ ws) :
    MetFree l (⟨"com/example/intact_keys/intactkeys/check/KeySetPackedValuesPinLaw", "count", "([JJ)I"⟩ : MethodName) (head1 (Jvm.Cond.code (⟨"com/example/intact_keys/intactkeys/check/KeySetPackedValuesPinLaw", "count", "([JJ)I"⟩ : MethodName) method_2_code 4 (some .int) :: ws') ({ frames := 0, cells := 0, slots := 0, locals := 0 } : Room)) (fun aa U => aa = #[(.ref wa), (.long x)] ∧ Z.Warmed39 U.vm ∧ U.heap = h0) (fun _ _ _ _ _ => True) (fun _ U o U' => ∃ vv L, o = .returned vv ∧ Q10 wa x ws h0 n0 vv U'.heap L ∧ FrameEnd U o U' L (({ frames := 0, cells := 0, slots := 0, locals := 0 } : Room)).cells (({ frames := 0, cells := 0, slots := 0, locals := 0 } : Room)).slots) := by
  refine MetFree.of_bodySF (plainFor_of_name pn_L) hisR ?_
  intro p e s m args below meth c s₁ Bd hml0 hP hK
  obtain ⟨rfl, hZ, hh⟩ := hP
  have hx := Bd.exec
  have hby := Bd.bytes
  have hml : c.maxLocals = 4 := hml0
  have hown : s.vm.findClass "com/example/intact_keys/intactkeys/check/KeySetPackedValuesPinLaw" = some m.cls := findClass_of_methodNamed Bd.named
  have hnm := (name_of_methodNamed Bd.named Bd.method).1
  have X0 : Stand p l e ({ frames := 0, cells := 0, slots := 0, locals := 0 } : Room) s m #[(.ref wa), (.long x)] below meth c s₁ [] 0 0 := Stand.of_body Bd
  have e0 : s₁.heap = h0 := by rw [← hh, Bd.state]; rfl
  have N0 := Fr.nil n0
  obtain ⟨cl, Ar, Sz, Hs⟩ := A
  obtain ⟨T', pc', Ls, X', e', hd', st'⟩ := own_cnt_b0 ws wa x X0 hx hZ hw hby hml hown e0 cl Ar Sz Hs (by omega) 1 (own_cnt_one ws wa x hl nd hm).symm
  obtain ⟨fs, hr, hrun, hended, hW, hsame⟩ := X'.leave (v := some (.int (1 : Int32))) (fun h => by rw [Bd.returns] at h; cases h)
  refine ⟨_, _, castTop (ef_10 m wa x) (st' _ ?_), hrun, hended, _, _, rfl, ?_, ⟨_, rfl⟩, hW, hsame.mono (by decide) (by decide)⟩
  · exact retI X' hx Bd.returns hd' hr
  · exact ⟨rfl, Fr.nil n0, e'⟩
set_option maxRecDepth 65536 in
set_option maxHeartbeats 40000000 in
theorem own_t0 {p : Program} {l : Launch} {e : Env} {R : Room} {s : State} {m : MethodId} {args : Array Value} {below : List Frame} {meth : Method} {c : Code} {T0 : State} {locs : List Loc} {cells slots : Nat}  (va b0 c0 d0 : Int64) (fl : Int32) 
    (X0 : Stand p l e R s m args below meth c T0 locs cells slots) (hx : p.tables.exec = Jvm.exec) (hby : c.code = code) :
    ∃ vb : Int64, ∀ target, Steps p.tables e below (T0.setTop (mkF m 14 #[.val (.long va), .second, .val (.long b0), .second, .val (.long c0), .second, .val (.long d0), .second, .val (.int fl), .val (.long vb), .second, .unset, .unset, .unset, .unset, .unset, .unset, .unset, .unset, .unset] [])) target → Steps p.tables e below (T0.setTop (mkF m 0 #[.val (.long va), .second, .val (.long b0), .second, .val (.long c0), .second, .val (.long d0), .second, .val (.int fl), .unset, .unset, .unset, .unset, .unset, .unset, .unset, .unset, .unset, .unset, .unset] [])) target := by
  by_cases h : fl &&& 1 = 0
  · refine ⟨b0, fun target kt => ?_⟩
    show Steps p.tables e below (T0.setTop (mkF m 0 #[.val (.long va), .second, .val (.long b0), .second, .val (.long c0), .second, .val (.long d0), .second, .val (.int fl), .unset, .unset, .unset, .unset, .unset, .unset, .unset, .unset, .unset, .unset, .unset] [])) _
    refine XS.iload X0.here hx rfl (hb hby at_0) rfl ?_
    show Steps p.tables e below (T0.setTop (mkF m 2 #[.val (.long va), .second, .val (.long b0), .second, .val (.long c0), .second, .val (.long d0), .second, .val (.int fl), .unset, .unset, .unset, .unset, .unset, .unset, .unset, .unset, .unset, .unset, .unset] [(.int fl)])) _
    refine XS.iconst X0.here hx rfl (hb hby at_2) ?_
    show Steps p.tables e below (T0.setTop (mkF m 3 #[.val (.long va), .second, .val (.long b0), .second, .val (.long c0), .second, .val (.long d0), .second, .val (.int fl), .unset, .unset, .unset, .unset, .unset, .unset, .unset, .unset, .unset, .unset, .unset] [(.int (1 : Int32)), (.int fl)])) _
    refine XS.iand X0.here hx rfl (hb hby at_3) rfl ?_
    show Steps p.tables e below (T0.setTop (mkF m 4 #[.val (.long va), .second, .val (.long b0), .second, .val (.long c0), .second, .val (.long d0), .second, .val (.int fl), .unset, .unset, .unset, .unset, .unset, .unset, .unset, .unset, .unset, .unset, .unset] [(.int (fl &&& (1 : Int32)))])) _
    refine XS.ifYes X0.here hx rfl (pc0 := 4) (pc' := 11) rfl (hb hby at_4) rfl ((if0 _ _).trans (teq h).1) (by decide) (by decide) ?_
    show Steps p.tables e below (T0.setTop (mkF m 11 #[.val (.long va), .second, .val (.long b0), .second, .val (.long c0), .second, .val (.long d0), .second, .val (.int fl), .unset, .unset, .unset, .unset, .unset, .unset, .unset, .unset, .unset, .unset, .unset] [])) _
    refine XS.lloadN X0.here hx rfl (hb hby at_11) rfl ?_
    show Steps p.tables e below (T0.setTop (mkF m 12 #[.val (.long va), .second, .val (.long b0), .second, .val (.long c0), .second, .val (.long d0), .second, .val (.int fl), .unset, .unset, .unset, .unset, .unset, .unset, .unset, .unset, .unset, .unset, .unset] [(.long b0)])) _
    refine XS.lstore X0.here hx rfl (hb hby at_12) rfl (l' := #[.val (.long va), .second, .val (.long b0), .second, .val (.long c0), .second, .val (.long d0), .second, .val (.int fl), .val (.long b0), .second, .unset, .unset, .unset, .unset, .unset, .unset, .unset, .unset, .unset]) rfl ?_
    show Steps p.tables e below (T0.setTop (mkF m 14 #[.val (.long va), .second, .val (.long b0), .second, .val (.long c0), .second, .val (.long d0), .second, .val (.int fl), .val (.long b0), .second, .unset, .unset, .unset, .unset, .unset, .unset, .unset, .unset, .unset] [])) _
    exact kt
  · refine ⟨va, fun target kt => ?_⟩
    show Steps p.tables e below (T0.setTop (mkF m 0 #[.val (.long va), .second, .val (.long b0), .second, .val (.long c0), .second, .val (.long d0), .second, .val (.int fl), .unset, .unset, .unset, .unset, .unset, .unset, .unset, .unset, .unset, .unset, .unset] [])) _
    refine XS.iload X0.here hx rfl (hb hby at_0) rfl ?_
    show Steps p.tables e below (T0.setTop (mkF m 2 #[.val (.long va), .second, .val (.long b0), .second, .val (.long c0), .second, .val (.long d0), .second, .val (.int fl), .unset, .unset, .unset, .unset, .unset, .unset, .unset, .unset, .unset, .unset, .unset] [(.int fl)])) _
    refine XS.iconst X0.here hx rfl (hb hby at_2) ?_
    show Steps p.tables e below (T0.setTop (mkF m 3 #[.val (.long va), .second, .val (.long b0), .second, .val (.long c0), .second, .val (.long d0), .second, .val (.int fl), .unset, .unset, .unset, .unset, .unset, .unset, .unset, .unset, .unset, .unset, .unset] [(.int (1 : Int32)), (.int fl)])) _
    refine XS.iand X0.here hx rfl (hb hby at_3) rfl ?_
    show Steps p.tables e below (T0.setTop (mkF m 4 #[.val (.long va), .second, .val (.long b0), .second, .val (.long c0), .second, .val (.long d0), .second, .val (.int fl), .unset, .unset, .unset, .unset, .unset, .unset, .unset, .unset, .unset, .unset, .unset] [(.int (fl &&& (1 : Int32)))])) _
    refine XS.ifNo X0.here hx rfl (hb hby at_4) rfl ((if0 _ _).trans (feq h).1) ?_
    show Steps p.tables e below (T0.setTop (mkF m 7 #[.val (.long va), .second, .val (.long b0), .second, .val (.long c0), .second, .val (.long d0), .second, .val (.int fl), .unset, .unset, .unset, .unset, .unset, .unset, .unset, .unset, .unset, .unset, .unset] [])) _
    refine XS.lloadN X0.here hx rfl (hb hby at_7) rfl ?_
    show Steps p.tables e below (T0.setTop (mkF m 8 #[.val (.long va), .second, .val (.long b0), .second, .val (.long c0), .second, .val (.long d0), .second, .val (.int fl), .unset, .unset, .unset, .unset, .unset, .unset, .unset, .unset, .unset, .unset, .unset] [(.long va)])) _
    refine XS.goto X0.here hx rfl (pc0 := 8) (pc' := 12) rfl (hb hby at_8) (by decide) (by decide) ?_
    show Steps p.tables e below (T0.setTop (mkF m 12 #[.val (.long va), .second, .val (.long b0), .second, .val (.long c0), .second, .val (.long d0), .second, .val (.int fl), .unset, .unset, .unset, .unset, .unset, .unset, .unset, .unset, .unset, .unset, .unset] [(.long va)])) _
    refine XS.lstore X0.here hx rfl (hb hby at_12) rfl (l' := #[.val (.long va), .second, .val (.long b0), .second, .val (.long c0), .second, .val (.long d0), .second, .val (.int fl), .val (.long va), .second, .unset, .unset, .unset, .unset, .unset, .unset, .unset, .unset, .unset]) rfl ?_
    show Steps p.tables e below (T0.setTop (mkF m 14 #[.val (.long va), .second, .val (.long b0), .second, .val (.long c0), .second, .val (.long d0), .second, .val (.int fl), .val (.long va), .second, .unset, .unset, .unset, .unset, .unset, .unset, .unset, .unset, .unset] [])) _
    exact kt
set_option maxRecDepth 65536 in
set_option maxHeartbeats 40000000 in
theorem own_t14 {p : Program} {l : Launch} {e : Env} {R : Room} {s : State} {m : MethodId} {args : Array Value} {below : List Frame} {meth : Method} {c : Code} {T0 : State} {locs : List Loc} {cells slots : Nat}  (va b0 c0 d0 : Int64) (fl : Int32) (vb : Int64)
    (X0 : Stand p l e R s m args below meth c T0 locs cells slots) (hx : p.tables.exec = Jvm.exec) (hby : c.code = code) :
    ∃ vc : Int64, ∀ target, Steps p.tables e below (T0.setTop (mkF m 29 #[.val (.long va), .second, .val (.long b0), .second, .val (.long c0), .second, .val (.long d0), .second, .val (.int fl), .val (.long vb), .second, .val (.long vc), .second, .unset, .unset, .unset, .unset, .unset, .unset, .unset] [])) target → Steps p.tables e below (T0.setTop (mkF m 14 #[.val (.long va), .second, .val (.long b0), .second, .val (.long c0), .second, .val (.long d0), .second, .val (.int fl), .val (.long vb), .second, .unset, .unset, .unset, .unset, .unset, .unset, .unset, .unset, .unset] [])) target := by
  by_cases h : fl &&& 2 = 0
  · refine ⟨c0, fun target kt => ?_⟩
    show Steps p.tables e below (T0.setTop (mkF m 14 #[.val (.long va), .second, .val (.long b0), .second, .val (.long c0), .second, .val (.long d0), .second, .val (.int fl), .val (.long vb), .second, .unset, .unset, .unset, .unset, .unset, .unset, .unset, .unset, .unset] [])) _
    refine XS.iload X0.here hx rfl (hb hby at_14) rfl ?_
    show Steps p.tables e below (T0.setTop (mkF m 16 #[.val (.long va), .second, .val (.long b0), .second, .val (.long c0), .second, .val (.long d0), .second, .val (.int fl), .val (.long vb), .second, .unset, .unset, .unset, .unset, .unset, .unset, .unset, .unset, .unset] [(.int fl)])) _
    refine XS.iconst X0.here hx rfl (hb hby at_16) ?_
    show Steps p.tables e below (T0.setTop (mkF m 17 #[.val (.long va), .second, .val (.long b0), .second, .val (.long c0), .second, .val (.long d0), .second, .val (.int fl), .val (.long vb), .second, .unset, .unset, .unset, .unset, .unset, .unset, .unset, .unset, .unset] [(.int (2 : Int32)), (.int fl)])) _
    refine XS.iand X0.here hx rfl (hb hby at_17) rfl ?_
    show Steps p.tables e below (T0.setTop (mkF m 18 #[.val (.long va), .second, .val (.long b0), .second, .val (.long c0), .second, .val (.long d0), .second, .val (.int fl), .val (.long vb), .second, .unset, .unset, .unset, .unset, .unset, .unset, .unset, .unset, .unset] [(.int (fl &&& (2 : Int32)))])) _
    refine XS.ifYes X0.here hx rfl (pc0 := 18) (pc' := 25) rfl (hb hby at_18) rfl ((if0 _ _).trans (teq h).1) (by decide) (by decide) ?_
    show Steps p.tables e below (T0.setTop (mkF m 25 #[.val (.long va), .second, .val (.long b0), .second, .val (.long c0), .second, .val (.long d0), .second, .val (.int fl), .val (.long vb), .second, .unset, .unset, .unset, .unset, .unset, .unset, .unset, .unset, .unset] [])) _
    refine XS.lload X0.here hx rfl (hb hby at_25) rfl ?_
    show Steps p.tables e below (T0.setTop (mkF m 27 #[.val (.long va), .second, .val (.long b0), .second, .val (.long c0), .second, .val (.long d0), .second, .val (.int fl), .val (.long vb), .second, .unset, .unset, .unset, .unset, .unset, .unset, .unset, .unset, .unset] [(.long c0)])) _
    refine XS.lstore X0.here hx rfl (hb hby at_27) rfl (l' := #[.val (.long va), .second, .val (.long b0), .second, .val (.long c0), .second, .val (.long d0), .second, .val (.int fl), .val (.long vb), .second, .val (.long c0), .second, .unset, .unset, .unset, .unset, .unset, .unset, .unset]) rfl ?_
    show Steps p.tables e below (T0.setTop (mkF m 29 #[.val (.long va), .second, .val (.long b0), .second, .val (.long c0), .second, .val (.long d0), .second, .val (.int fl), .val (.long vb), .second, .val (.long c0), .second, .unset, .unset, .unset, .unset, .unset, .unset, .unset] [])) _
    exact kt
  · refine ⟨(0 : Int64), fun target kt => ?_⟩
    show Steps p.tables e below (T0.setTop (mkF m 14 #[.val (.long va), .second, .val (.long b0), .second, .val (.long c0), .second, .val (.long d0), .second, .val (.int fl), .val (.long vb), .second, .unset, .unset, .unset, .unset, .unset, .unset, .unset, .unset, .unset] [])) _
    refine XS.iload X0.here hx rfl (hb hby at_14) rfl ?_
    show Steps p.tables e below (T0.setTop (mkF m 16 #[.val (.long va), .second, .val (.long b0), .second, .val (.long c0), .second, .val (.long d0), .second, .val (.int fl), .val (.long vb), .second, .unset, .unset, .unset, .unset, .unset, .unset, .unset, .unset, .unset] [(.int fl)])) _
    refine XS.iconst X0.here hx rfl (hb hby at_16) ?_
    show Steps p.tables e below (T0.setTop (mkF m 17 #[.val (.long va), .second, .val (.long b0), .second, .val (.long c0), .second, .val (.long d0), .second, .val (.int fl), .val (.long vb), .second, .unset, .unset, .unset, .unset, .unset, .unset, .unset, .unset, .unset] [(.int (2 : Int32)), (.int fl)])) _
    refine XS.iand X0.here hx rfl (hb hby at_17) rfl ?_
    show Steps p.tables e below (T0.setTop (mkF m 18 #[.val (.long va), .second, .val (.long b0), .second, .val (.long c0), .second, .val (.long d0), .second, .val (.int fl), .val (.long vb), .second, .unset, .unset, .unset, .unset, .unset, .unset, .unset, .unset, .unset] [(.int (fl &&& (2 : Int32)))])) _
    refine XS.ifNo X0.here hx rfl (hb hby at_18) rfl ((if0 _ _).trans (feq h).1) ?_
    show Steps p.tables e below (T0.setTop (mkF m 21 #[.val (.long va), .second, .val (.long b0), .second, .val (.long c0), .second, .val (.long d0), .second, .val (.int fl), .val (.long vb), .second, .unset, .unset, .unset, .unset, .unset, .unset, .unset, .unset, .unset] [])) _
    refine XS.lconst X0.here hx rfl (hb hby at_21) ?_
    show Steps p.tables e below (T0.setTop (mkF m 22 #[.val (.long va), .second, .val (.long b0), .second, .val (.long c0), .second, .val (.long d0), .second, .val (.int fl), .val (.long vb), .second, .unset, .unset, .unset, .unset, .unset, .unset, .unset, .unset, .unset] [(.long (0 : Int64))])) _
    refine XS.goto X0.here hx rfl (pc0 := 22) (pc' := 27) rfl (hb hby at_22) (by decide) (by decide) ?_
    show Steps p.tables e below (T0.setTop (mkF m 27 #[.val (.long va), .second, .val (.long b0), .second, .val (.long c0), .second, .val (.long d0), .second, .val (.int fl), .val (.long vb), .second, .unset, .unset, .unset, .unset, .unset, .unset, .unset, .unset, .unset] [(.long (0 : Int64))])) _
    refine XS.lstore X0.here hx rfl (hb hby at_27) rfl (l' := #[.val (.long va), .second, .val (.long b0), .second, .val (.long c0), .second, .val (.long d0), .second, .val (.int fl), .val (.long vb), .second, .val (.long (0 : Int64)), .second, .unset, .unset, .unset, .unset, .unset, .unset, .unset]) rfl ?_
    show Steps p.tables e below (T0.setTop (mkF m 29 #[.val (.long va), .second, .val (.long b0), .second, .val (.long c0), .second, .val (.long d0), .second, .val (.int fl), .val (.long vb), .second, .val (.long (0 : Int64)), .second, .unset, .unset, .unset, .unset, .unset, .unset, .unset] [])) _
    exact kt
set_option maxRecDepth 65536 in
set_option maxHeartbeats 40000000 in
theorem own_t29 {p : Program} {l : Launch} {e : Env} {R : Room} {s : State} {m : MethodId} {args : Array Value} {below : List Frame} {meth : Method} {c : Code} {T0 : State} {locs : List Loc} {cells slots : Nat}  (va b0 c0 d0 : Int64) (fl : Int32) (vb vc : Int64)
    (X0 : Stand p l e R s m args below meth c T0 locs cells slots) (hx : p.tables.exec = Jvm.exec) (hby : c.code = code) :
    ∃ vd : Int64, ∀ target, Steps p.tables e below (T0.setTop (mkF m 45 #[.val (.long va), .second, .val (.long b0), .second, .val (.long c0), .second, .val (.long d0), .second, .val (.int fl), .val (.long vb), .second, .val (.long vc), .second, .val (.long vd), .second, .unset, .unset, .unset, .unset, .unset] [])) target → Steps p.tables e below (T0.setTop (mkF m 29 #[.val (.long va), .second, .val (.long b0), .second, .val (.long c0), .second, .val (.long d0), .second, .val (.int fl), .val (.long vb), .second, .val (.long vc), .second, .unset, .unset, .unset, .unset, .unset, .unset, .unset] [])) target := by
  by_cases h : fl &&& 4 = 0
  · refine ⟨d0, fun target kt => ?_⟩
    show Steps p.tables e below (T0.setTop (mkF m 29 #[.val (.long va), .second, .val (.long b0), .second, .val (.long c0), .second, .val (.long d0), .second, .val (.int fl), .val (.long vb), .second, .val (.long vc), .second, .unset, .unset, .unset, .unset, .unset, .unset, .unset] [])) _
    refine XS.iload X0.here hx rfl (hb hby at_29) rfl ?_
    show Steps p.tables e below (T0.setTop (mkF m 31 #[.val (.long va), .second, .val (.long b0), .second, .val (.long c0), .second, .val (.long d0), .second, .val (.int fl), .val (.long vb), .second, .val (.long vc), .second, .unset, .unset, .unset, .unset, .unset, .unset, .unset] [(.int fl)])) _
    refine XS.iconst X0.here hx rfl (hb hby at_31) ?_
    show Steps p.tables e below (T0.setTop (mkF m 32 #[.val (.long va), .second, .val (.long b0), .second, .val (.long c0), .second, .val (.long d0), .second, .val (.int fl), .val (.long vb), .second, .val (.long vc), .second, .unset, .unset, .unset, .unset, .unset, .unset, .unset] [(.int (4 : Int32)), (.int fl)])) _
    refine XS.iand X0.here hx rfl (hb hby at_32) rfl ?_
    show Steps p.tables e below (T0.setTop (mkF m 33 #[.val (.long va), .second, .val (.long b0), .second, .val (.long c0), .second, .val (.long d0), .second, .val (.int fl), .val (.long vb), .second, .val (.long vc), .second, .unset, .unset, .unset, .unset, .unset, .unset, .unset] [(.int (fl &&& (4 : Int32)))])) _
    refine XS.ifYes X0.here hx rfl (pc0 := 33) (pc' := 41) rfl (hb hby at_33) rfl ((if0 _ _).trans (teq h).1) (by decide) (by decide) ?_
    show Steps p.tables e below (T0.setTop (mkF m 41 #[.val (.long va), .second, .val (.long b0), .second, .val (.long c0), .second, .val (.long d0), .second, .val (.int fl), .val (.long vb), .second, .val (.long vc), .second, .unset, .unset, .unset, .unset, .unset, .unset, .unset] [])) _
    refine XS.lload X0.here hx rfl (hb hby at_41) rfl ?_
    show Steps p.tables e below (T0.setTop (mkF m 43 #[.val (.long va), .second, .val (.long b0), .second, .val (.long c0), .second, .val (.long d0), .second, .val (.int fl), .val (.long vb), .second, .val (.long vc), .second, .unset, .unset, .unset, .unset, .unset, .unset, .unset] [(.long d0)])) _
    refine XS.lstore X0.here hx rfl (hb hby at_43) rfl (l' := #[.val (.long va), .second, .val (.long b0), .second, .val (.long c0), .second, .val (.long d0), .second, .val (.int fl), .val (.long vb), .second, .val (.long vc), .second, .val (.long d0), .second, .unset, .unset, .unset, .unset, .unset]) rfl ?_
    show Steps p.tables e below (T0.setTop (mkF m 45 #[.val (.long va), .second, .val (.long b0), .second, .val (.long c0), .second, .val (.long d0), .second, .val (.int fl), .val (.long vb), .second, .val (.long vc), .second, .val (.long d0), .second, .unset, .unset, .unset, .unset, .unset] [])) _
    exact kt
  · refine ⟨vb, fun target kt => ?_⟩
    show Steps p.tables e below (T0.setTop (mkF m 29 #[.val (.long va), .second, .val (.long b0), .second, .val (.long c0), .second, .val (.long d0), .second, .val (.int fl), .val (.long vb), .second, .val (.long vc), .second, .unset, .unset, .unset, .unset, .unset, .unset, .unset] [])) _
    refine XS.iload X0.here hx rfl (hb hby at_29) rfl ?_
    show Steps p.tables e below (T0.setTop (mkF m 31 #[.val (.long va), .second, .val (.long b0), .second, .val (.long c0), .second, .val (.long d0), .second, .val (.int fl), .val (.long vb), .second, .val (.long vc), .second, .unset, .unset, .unset, .unset, .unset, .unset, .unset] [(.int fl)])) _
    refine XS.iconst X0.here hx rfl (hb hby at_31) ?_
    show Steps p.tables e below (T0.setTop (mkF m 32 #[.val (.long va), .second, .val (.long b0), .second, .val (.long c0), .second, .val (.long d0), .second, .val (.int fl), .val (.long vb), .second, .val (.long vc), .second, .unset, .unset, .unset, .unset, .unset, .unset, .unset] [(.int (4 : Int32)), (.int fl)])) _
    refine XS.iand X0.here hx rfl (hb hby at_32) rfl ?_
    show Steps p.tables e below (T0.setTop (mkF m 33 #[.val (.long va), .second, .val (.long b0), .second, .val (.long c0), .second, .val (.long d0), .second, .val (.int fl), .val (.long vb), .second, .val (.long vc), .second, .unset, .unset, .unset, .unset, .unset, .unset, .unset] [(.int (fl &&& (4 : Int32)))])) _
    refine XS.ifNo X0.here hx rfl (hb hby at_33) rfl ((if0 _ _).trans (feq h).1) ?_
    show Steps p.tables e below (T0.setTop (mkF m 36 #[.val (.long va), .second, .val (.long b0), .second, .val (.long c0), .second, .val (.long d0), .second, .val (.int fl), .val (.long vb), .second, .val (.long vc), .second, .unset, .unset, .unset, .unset, .unset, .unset, .unset] [])) _
    refine XS.lload X0.here hx rfl (hb hby at_36) rfl ?_
    show Steps p.tables e below (T0.setTop (mkF m 38 #[.val (.long va), .second, .val (.long b0), .second, .val (.long c0), .second, .val (.long d0), .second, .val (.int fl), .val (.long vb), .second, .val (.long vc), .second, .unset, .unset, .unset, .unset, .unset, .unset, .unset] [(.long vb)])) _
    refine XS.goto X0.here hx rfl (pc0 := 38) (pc' := 43) rfl (hb hby at_38) (by decide) (by decide) ?_
    show Steps p.tables e below (T0.setTop (mkF m 43 #[.val (.long va), .second, .val (.long b0), .second, .val (.long c0), .second, .val (.long d0), .second, .val (.int fl), .val (.long vb), .second, .val (.long vc), .second, .unset, .unset, .unset, .unset, .unset, .unset, .unset] [(.long vb)])) _
    refine XS.lstore X0.here hx rfl (hb hby at_43) rfl (l' := #[.val (.long va), .second, .val (.long b0), .second, .val (.long c0), .second, .val (.long d0), .second, .val (.int fl), .val (.long vb), .second, .val (.long vc), .second, .val (.long vb), .second, .unset, .unset, .unset, .unset, .unset]) rfl ?_
    show Steps p.tables e below (T0.setTop (mkF m 45 #[.val (.long va), .second, .val (.long b0), .second, .val (.long c0), .second, .val (.long d0), .second, .val (.int fl), .val (.long vb), .second, .val (.long vc), .second, .val (.long vb), .second, .unset, .unset, .unset, .unset, .unset] [])) _
    exact kt
def own_k (fl : Int32) : Int32 := (((fl.toUInt32 >>> ((3 : Int32) &&& 31).toUInt32).toInt32) - ((fl.toUInt32 >>> ((3 : Int32) &&& 31).toUInt32).toInt32) / (5 : Int32) * (5 : Int32))
theorem own_rem {x y : Int32} {d : Int} (hy : y.toInt = d) (h1 : y ≠ -1) (hd : 0 < d) (hx : 0 ≤ x.toInt) : (x - x / y * y).toInt = x.toInt % d := by
  have a := (c_idiv x y d hy h1).1 hx
  have b := c_imul (x / y) y
  have e := c_isub x (x / y * y)
  have r1 := rng32 (x - x / y * y)
  have r2 := rng32 (x / y * y)
  have r3 := rng32 x
  rw [a, hy] at b
  have q := Int.emod_add_mul_ediv x.toInt d
  have q1 := Int.emod_nonneg x.toInt (show d ≠ 0 by omega)
  have q2 := Int.emod_lt_of_pos x.toInt hd
  rw [Int.mul_comm] at q
  have q3 : 0 ≤ x.toInt / d * d := Int.mul_nonneg (Int.ediv_nonneg hx (by omega)) (by omega)
  generalize x.toInt / d * d = z at *
  generalize x.toInt % d = w at *
  omega
theorem own_k_r (fl : Int32) : 0 ≤ (own_k fl).toInt ∧ (own_k fl).toInt ≤ 4 := by
  have h1 := c_iushr fl 3 3 (by decide) (by decide)
  have h2 := rng32 fl
  have h3 : 0 ≤ ((fl.toUInt32 >>> ((3 : Int32) &&& 31).toUInt32).toInt32).toInt := by rw [h1]; omega
  have h4 := own_rem (x := (fl.toUInt32 >>> ((3 : Int32) &&& 31).toUInt32).toInt32) (y := 5) (d := 5) (by decide) (by decide) (by decide) h3
  unfold own_k
  rw [h4]; omega
def own_D1 (k : Int32) (a : Int64) : List Int64 := if (0 : Int32) < k then own_add [] a else []
def own_D2 (k : Int32) (a b : Int64) : List Int64 := if (1 : Int32) < k then own_add (own_D1 k a) b else own_D1 k a
def own_D3 (k : Int32) (a b d : Int64) : List Int64 := if (2 : Int32) < k then own_add (own_D2 k a b) d else own_D2 k a b
def own_D4 (k : Int32) (a b d f : Int64) : List Int64 := if (3 : Int32) < k then own_add (own_D3 k a b d) f else own_D3 k a b d
theorem own_add_length (D : List Int64) (x : Int64) : (own_add D x).length = if x ∈ D then D.length else D.length + 1 := by unfold own_add; split <;> simp
theorem own_D1_le (k : Int32) (a : Int64) : (own_D1 k a).length ≤ 1 := by unfold own_D1; split <;> first | exact own_add_len _ _ | exact Nat.zero_le _
theorem own_D2_le (k : Int32) (a b : Int64) : (own_D2 k a b).length ≤ 2 := by
  have := own_D1_le k a
  have := own_add_len (own_D1 k a) b
  unfold own_D2; split <;> omega
theorem own_D3_le (k : Int32) (a b d : Int64) : (own_D3 k a b d).length ≤ 3 := by
  have := own_D2_le k a b
  have := own_add_len (own_D2 k a b) d
  unfold own_D3; split <;> omega
theorem own_D4_le (k : Int32) (a b d f : Int64) : (own_D4 k a b d f).length ≤ 4 := by
  have := own_D3_le k a b d
  have := own_add_len (own_D3 k a b d) f
  unfold own_D4; split <;> omega
theorem own_D4_mem (k : Int32) (a b d f : Int64) : ((0 : Int32) < k → a ∈ own_D4 k a b d f) ∧ ((1 : Int32) < k → b ∈ own_D4 k a b d f) ∧ ((2 : Int32) < k → d ∈ own_D4 k a b d f) ∧ ((3 : Int32) < k → f ∈ own_D4 k a b d f) := by
  have m1 : (0 : Int32) < k → a ∈ own_D1 k a := fun h => by unfold own_D1; rw [if_pos h]; exact own_add_mem.mpr (Or.inr rfl)
  have s2 : ∀ x, x ∈ own_D1 k a → x ∈ own_D2 k a b := fun x h => by unfold own_D2; split <;> first | exact own_add_mem.mpr (Or.inl h) | exact h
  have s3 : ∀ x, x ∈ own_D2 k a b → x ∈ own_D3 k a b d := fun x h => by unfold own_D3; split <;> first | exact own_add_mem.mpr (Or.inl h) | exact h
  have s4 : ∀ x, x ∈ own_D3 k a b d → x ∈ own_D4 k a b d f := fun x h => by unfold own_D4; split <;> first | exact own_add_mem.mpr (Or.inl h) | exact h
  refine ⟨fun h => s4 _ (s3 _ (s2 _ (m1 h))), fun h => s4 _ (s3 _ ?_), fun h => s4 _ ?_, fun h => ?_⟩
  · unfold own_D2; rw [if_pos h]; exact own_add_mem.mpr (Or.inr rfl)
  · unfold own_D3; rw [if_pos h]; exact own_add_mem.mpr (Or.inr rfl)
  · unfold own_D4; rw [if_pos h]; exact own_add_mem.mpr (Or.inr rfl)
def own_n_f167 (va : Int64) (b0 : Int64) (c0 : Int64) (d0 : Int64) (fl : Int32) (vb : Int64) (vc : Int64) (vd : Int64) (k : Int32) (a : Addr) (n1 : Int32) : Int32 := (if (3 : Int32) < k then (if vd = va then n1 else (if vd = vb then n1 else (if vd = vc then n1 else (n1 + (1 : Int32))))) else n1)
set_option maxRecDepth 65536 in
set_option maxHeartbeats 40000000 in
theorem own_n_b167 {p : Program} {l : Launch} {e : Env} {R : Room} {s : State} {m : MethodId} {args : Array Value} {below : List Frame} {meth : Method} {c : Code} {T0 : State} {locs : List Loc} {cells slots : Nat} {Z : State} {a0 : Array Value} {h0 : Heap} (va : Int64) (b0 : Int64) (c0 : Int64) (d0 : Int64) (fl : Int32) (vb : Int64) (vc : Int64) (vd : Int64) (k : Int32) (a : Addr) (n1 : Int32)
    (X0 : Stand p l e R s m args below meth c T0 locs cells slots) (hx : p.tables.exec = Jvm.exec) (hZ : Z.Warmed39 s.vm) (hw : ∀ d ∈ tables_1, d.before a0 Z = true) (hby : c.code = code) (hml : c.maxLocals = 20) (hown : s.vm.findClass "com/example/intact_keys/intactkeys/check/KeySetPackedValuesPinLaw" = some m.cls) (e0 : T0.heap = h0)  (F : Int32) (hF : F = own_n_f167 va b0 c0 d0 fl vb vc vd k a n1) :
    ∃ (T' : State), Stand p l e R s m args below meth c T' locs cells slots ∧ T'.heap = h0 ∧
      ∀ target, Steps p.tables e below (T'.setTop (mkF m 199 #[.val (.long va), .second, .val (.long b0), .second, .val (.long c0), .second, .val (.long d0), .second, .val (.int fl), .val (.long vb), .second, .val (.long vc), .second, .val (.long vd), .second, .val (.int k), .val (.ref a), .val (.int F), .unset, .unset] [])) target → Steps p.tables e below (T0.setTop (mkF m 167 #[.val (.long va), .second, .val (.long b0), .second, .val (.long c0), .second, .val (.long d0), .second, .val (.int fl), .val (.long vb), .second, .val (.long vc), .second, .val (.long vd), .second, .val (.int k), .val (.ref a), .val (.int n1), .unset, .unset] [])) target := by
  by_cases hc170_1 : (3 : Int32) < k
  · by_cases hc177_2 : vd = va
    · have hv : F = n1 := (hF.trans (by rw [own_n_f167, if_pos hc170_1, if_pos hc177_2]))
      refine ⟨T0, X0, e0, fun target kt => ?_⟩
      rw [hv] at kt
      show Steps p.tables e below (T0.setTop (mkF m 167 #[.val (.long va), .second, .val (.long b0), .second, .val (.long c0), .second, .val (.long d0), .second, .val (.int fl), .val (.long vb), .second, .val (.long vc), .second, .val (.long vd), .second, .val (.int k), .val (.ref a), .val (.int n1), .unset, .unset] [])) _
      refine XS.iload X0.here hx rfl (hb hby at_167) rfl ?_
      show Steps p.tables e below (T0.setTop (mkF m 169 #[.val (.long va), .second, .val (.long b0), .second, .val (.long c0), .second, .val (.long d0), .second, .val (.int fl), .val (.long vb), .second, .val (.long vc), .second, .val (.long vd), .second, .val (.int k), .val (.ref a), .val (.int n1), .unset, .unset] [(.int k)])) _
      refine XS.iconst X0.here hx rfl (hb hby at_169) ?_
      show Steps p.tables e below (T0.setTop (mkF m 170 #[.val (.long va), .second, .val (.long b0), .second, .val (.long c0), .second, .val (.long d0), .second, .val (.int fl), .val (.long vb), .second, .val (.long vc), .second, .val (.long vd), .second, .val (.int k), .val (.ref a), .val (.int n1), .unset, .unset] [(.int (3 : Int32)), (.int k)])) _
      refine XS.icmpNo X0.here hx rfl (hb hby at_170) rfl (tlt hc170_1).2.2.2 ?_
      show Steps p.tables e below (T0.setTop (mkF m 173 #[.val (.long va), .second, .val (.long b0), .second, .val (.long c0), .second, .val (.long d0), .second, .val (.int fl), .val (.long vb), .second, .val (.long vc), .second, .val (.long vd), .second, .val (.int k), .val (.ref a), .val (.int n1), .unset, .unset] [])) _
      refine XS.lload X0.here hx rfl (hb hby at_173) rfl ?_
      show Steps p.tables e below (T0.setTop (mkF m 175 #[.val (.long va), .second, .val (.long b0), .second, .val (.long c0), .second, .val (.long d0), .second, .val (.int fl), .val (.long vb), .second, .val (.long vc), .second, .val (.long vd), .second, .val (.int k), .val (.ref a), .val (.int n1), .unset, .unset] [(.long vd)])) _
      refine XS.lloadN X0.here hx rfl (hb hby at_175) rfl ?_
      show Steps p.tables e below (T0.setTop (mkF m 176 #[.val (.long va), .second, .val (.long b0), .second, .val (.long c0), .second, .val (.long d0), .second, .val (.int fl), .val (.long vb), .second, .val (.long vc), .second, .val (.long vd), .second, .val (.int k), .val (.ref a), .val (.int n1), .unset, .unset] [(.long va), (.long vd)])) _
      refine XS.lcmp X0.here hx rfl (hb hby at_176) rfl ?_
      show Steps p.tables e below (T0.setTop (mkF m 177 #[.val (.long va), .second, .val (.long b0), .second, .val (.long c0), .second, .val (.long d0), .second, .val (.int fl), .val (.long vb), .second, .val (.long vc), .second, .val (.long vd), .second, .val (.int k), .val (.ref a), .val (.int n1), .unset, .unset] [(.int (lcmpW vd va))])) _
      refine XS.ifYes X0.here hx rfl (pc0 := 177) (pc' := 199) rfl (hb hby at_177) rfl ((if0 _ _).trans (teq ((lw_eq _ _).mpr hc177_2)).1) (by decide) (by decide) ?_
      exact kt
    · by_cases hc185_3 : vd = vb
      · have hv : F = n1 := (hF.trans (by rw [own_n_f167, if_pos hc170_1, if_neg hc177_2, if_pos hc185_3]))
        refine ⟨T0, X0, e0, fun target kt => ?_⟩
        rw [hv] at kt
        show Steps p.tables e below (T0.setTop (mkF m 167 #[.val (.long va), .second, .val (.long b0), .second, .val (.long c0), .second, .val (.long d0), .second, .val (.int fl), .val (.long vb), .second, .val (.long vc), .second, .val (.long vd), .second, .val (.int k), .val (.ref a), .val (.int n1), .unset, .unset] [])) _
        refine XS.iload X0.here hx rfl (hb hby at_167) rfl ?_
        show Steps p.tables e below (T0.setTop (mkF m 169 #[.val (.long va), .second, .val (.long b0), .second, .val (.long c0), .second, .val (.long d0), .second, .val (.int fl), .val (.long vb), .second, .val (.long vc), .second, .val (.long vd), .second, .val (.int k), .val (.ref a), .val (.int n1), .unset, .unset] [(.int k)])) _
        refine XS.iconst X0.here hx rfl (hb hby at_169) ?_
        show Steps p.tables e below (T0.setTop (mkF m 170 #[.val (.long va), .second, .val (.long b0), .second, .val (.long c0), .second, .val (.long d0), .second, .val (.int fl), .val (.long vb), .second, .val (.long vc), .second, .val (.long vd), .second, .val (.int k), .val (.ref a), .val (.int n1), .unset, .unset] [(.int (3 : Int32)), (.int k)])) _
        refine XS.icmpNo X0.here hx rfl (hb hby at_170) rfl (tlt hc170_1).2.2.2 ?_
        show Steps p.tables e below (T0.setTop (mkF m 173 #[.val (.long va), .second, .val (.long b0), .second, .val (.long c0), .second, .val (.long d0), .second, .val (.int fl), .val (.long vb), .second, .val (.long vc), .second, .val (.long vd), .second, .val (.int k), .val (.ref a), .val (.int n1), .unset, .unset] [])) _
        refine XS.lload X0.here hx rfl (hb hby at_173) rfl ?_
        show Steps p.tables e below (T0.setTop (mkF m 175 #[.val (.long va), .second, .val (.long b0), .second, .val (.long c0), .second, .val (.long d0), .second, .val (.int fl), .val (.long vb), .second, .val (.long vc), .second, .val (.long vd), .second, .val (.int k), .val (.ref a), .val (.int n1), .unset, .unset] [(.long vd)])) _
        refine XS.lloadN X0.here hx rfl (hb hby at_175) rfl ?_
        show Steps p.tables e below (T0.setTop (mkF m 176 #[.val (.long va), .second, .val (.long b0), .second, .val (.long c0), .second, .val (.long d0), .second, .val (.int fl), .val (.long vb), .second, .val (.long vc), .second, .val (.long vd), .second, .val (.int k), .val (.ref a), .val (.int n1), .unset, .unset] [(.long va), (.long vd)])) _
        refine XS.lcmp X0.here hx rfl (hb hby at_176) rfl ?_
        show Steps p.tables e below (T0.setTop (mkF m 177 #[.val (.long va), .second, .val (.long b0), .second, .val (.long c0), .second, .val (.long d0), .second, .val (.int fl), .val (.long vb), .second, .val (.long vc), .second, .val (.long vd), .second, .val (.int k), .val (.ref a), .val (.int n1), .unset, .unset] [(.int (lcmpW vd va))])) _
        refine XS.ifNo X0.here hx rfl (hb hby at_177) rfl ((if0 _ _).trans (feq (fun z => hc177_2 ((lw_eq _ _).mp z))).1) ?_
        show Steps p.tables e below (T0.setTop (mkF m 180 #[.val (.long va), .second, .val (.long b0), .second, .val (.long c0), .second, .val (.long d0), .second, .val (.int fl), .val (.long vb), .second, .val (.long vc), .second, .val (.long vd), .second, .val (.int k), .val (.ref a), .val (.int n1), .unset, .unset] [])) _
        refine XS.lload X0.here hx rfl (hb hby at_180) rfl ?_
        show Steps p.tables e below (T0.setTop (mkF m 182 #[.val (.long va), .second, .val (.long b0), .second, .val (.long c0), .second, .val (.long d0), .second, .val (.int fl), .val (.long vb), .second, .val (.long vc), .second, .val (.long vd), .second, .val (.int k), .val (.ref a), .val (.int n1), .unset, .unset] [(.long vd)])) _
        refine XS.lload X0.here hx rfl (hb hby at_182) rfl ?_
        show Steps p.tables e below (T0.setTop (mkF m 184 #[.val (.long va), .second, .val (.long b0), .second, .val (.long c0), .second, .val (.long d0), .second, .val (.int fl), .val (.long vb), .second, .val (.long vc), .second, .val (.long vd), .second, .val (.int k), .val (.ref a), .val (.int n1), .unset, .unset] [(.long vb), (.long vd)])) _
        refine XS.lcmp X0.here hx rfl (hb hby at_184) rfl ?_
        show Steps p.tables e below (T0.setTop (mkF m 185 #[.val (.long va), .second, .val (.long b0), .second, .val (.long c0), .second, .val (.long d0), .second, .val (.int fl), .val (.long vb), .second, .val (.long vc), .second, .val (.long vd), .second, .val (.int k), .val (.ref a), .val (.int n1), .unset, .unset] [(.int (lcmpW vd vb))])) _
        refine XS.ifYes X0.here hx rfl (pc0 := 185) (pc' := 199) rfl (hb hby at_185) rfl ((if0 _ _).trans (teq ((lw_eq _ _).mpr hc185_3)).1) (by decide) (by decide) ?_
        exact kt
      · by_cases hc193_4 : vd = vc
        · have hv : F = n1 := (hF.trans (by rw [own_n_f167, if_pos hc170_1, if_neg hc177_2, if_neg hc185_3, if_pos hc193_4]))
          refine ⟨T0, X0, e0, fun target kt => ?_⟩
          rw [hv] at kt
          show Steps p.tables e below (T0.setTop (mkF m 167 #[.val (.long va), .second, .val (.long b0), .second, .val (.long c0), .second, .val (.long d0), .second, .val (.int fl), .val (.long vb), .second, .val (.long vc), .second, .val (.long vd), .second, .val (.int k), .val (.ref a), .val (.int n1), .unset, .unset] [])) _
          refine XS.iload X0.here hx rfl (hb hby at_167) rfl ?_
          show Steps p.tables e below (T0.setTop (mkF m 169 #[.val (.long va), .second, .val (.long b0), .second, .val (.long c0), .second, .val (.long d0), .second, .val (.int fl), .val (.long vb), .second, .val (.long vc), .second, .val (.long vd), .second, .val (.int k), .val (.ref a), .val (.int n1), .unset, .unset] [(.int k)])) _
          refine XS.iconst X0.here hx rfl (hb hby at_169) ?_
          show Steps p.tables e below (T0.setTop (mkF m 170 #[.val (.long va), .second, .val (.long b0), .second, .val (.long c0), .second, .val (.long d0), .second, .val (.int fl), .val (.long vb), .second, .val (.long vc), .second, .val (.long vd), .second, .val (.int k), .val (.ref a), .val (.int n1), .unset, .unset] [(.int (3 : Int32)), (.int k)])) _
          refine XS.icmpNo X0.here hx rfl (hb hby at_170) rfl (tlt hc170_1).2.2.2 ?_
          show Steps p.tables e below (T0.setTop (mkF m 173 #[.val (.long va), .second, .val (.long b0), .second, .val (.long c0), .second, .val (.long d0), .second, .val (.int fl), .val (.long vb), .second, .val (.long vc), .second, .val (.long vd), .second, .val (.int k), .val (.ref a), .val (.int n1), .unset, .unset] [])) _
          refine XS.lload X0.here hx rfl (hb hby at_173) rfl ?_
          show Steps p.tables e below (T0.setTop (mkF m 175 #[.val (.long va), .second, .val (.long b0), .second, .val (.long c0), .second, .val (.long d0), .second, .val (.int fl), .val (.long vb), .second, .val (.long vc), .second, .val (.long vd), .second, .val (.int k), .val (.ref a), .val (.int n1), .unset, .unset] [(.long vd)])) _
          refine XS.lloadN X0.here hx rfl (hb hby at_175) rfl ?_
          show Steps p.tables e below (T0.setTop (mkF m 176 #[.val (.long va), .second, .val (.long b0), .second, .val (.long c0), .second, .val (.long d0), .second, .val (.int fl), .val (.long vb), .second, .val (.long vc), .second, .val (.long vd), .second, .val (.int k), .val (.ref a), .val (.int n1), .unset, .unset] [(.long va), (.long vd)])) _
          refine XS.lcmp X0.here hx rfl (hb hby at_176) rfl ?_
          show Steps p.tables e below (T0.setTop (mkF m 177 #[.val (.long va), .second, .val (.long b0), .second, .val (.long c0), .second, .val (.long d0), .second, .val (.int fl), .val (.long vb), .second, .val (.long vc), .second, .val (.long vd), .second, .val (.int k), .val (.ref a), .val (.int n1), .unset, .unset] [(.int (lcmpW vd va))])) _
          refine XS.ifNo X0.here hx rfl (hb hby at_177) rfl ((if0 _ _).trans (feq (fun z => hc177_2 ((lw_eq _ _).mp z))).1) ?_
          show Steps p.tables e below (T0.setTop (mkF m 180 #[.val (.long va), .second, .val (.long b0), .second, .val (.long c0), .second, .val (.long d0), .second, .val (.int fl), .val (.long vb), .second, .val (.long vc), .second, .val (.long vd), .second, .val (.int k), .val (.ref a), .val (.int n1), .unset, .unset] [])) _
          refine XS.lload X0.here hx rfl (hb hby at_180) rfl ?_
          show Steps p.tables e below (T0.setTop (mkF m 182 #[.val (.long va), .second, .val (.long b0), .second, .val (.long c0), .second, .val (.long d0), .second, .val (.int fl), .val (.long vb), .second, .val (.long vc), .second, .val (.long vd), .second, .val (.int k), .val (.ref a), .val (.int n1), .unset, .unset] [(.long vd)])) _
          refine XS.lload X0.here hx rfl (hb hby at_182) rfl ?_
          show Steps p.tables e below (T0.setTop (mkF m 184 #[.val (.long va), .second, .val (.long b0), .second, .val (.long c0), .second, .val (.long d0), .second, .val (.int fl), .val (.long vb), .second, .val (.long vc), .second, .val (.long vd), .second, .val (.int k), .val (.ref a), .val (.int n1), .unset, .unset] [(.long vb), (.long vd)])) _
          refine XS.lcmp X0.here hx rfl (hb hby at_184) rfl ?_
          show Steps p.tables e below (T0.setTop (mkF m 185 #[.val (.long va), .second, .val (.long b0), .second, .val (.long c0), .second, .val (.long d0), .second, .val (.int fl), .val (.long vb), .second, .val (.long vc), .second, .val (.long vd), .second, .val (.int k), .val (.ref a), .val (.int n1), .unset, .unset] [(.int (lcmpW vd vb))])) _
          refine XS.ifNo X0.here hx rfl (hb hby at_185) rfl ((if0 _ _).trans (feq (fun z => hc185_3 ((lw_eq _ _).mp z))).1) ?_
          show Steps p.tables e below (T0.setTop (mkF m 188 #[.val (.long va), .second, .val (.long b0), .second, .val (.long c0), .second, .val (.long d0), .second, .val (.int fl), .val (.long vb), .second, .val (.long vc), .second, .val (.long vd), .second, .val (.int k), .val (.ref a), .val (.int n1), .unset, .unset] [])) _
          refine XS.lload X0.here hx rfl (hb hby at_188) rfl ?_
          show Steps p.tables e below (T0.setTop (mkF m 190 #[.val (.long va), .second, .val (.long b0), .second, .val (.long c0), .second, .val (.long d0), .second, .val (.int fl), .val (.long vb), .second, .val (.long vc), .second, .val (.long vd), .second, .val (.int k), .val (.ref a), .val (.int n1), .unset, .unset] [(.long vd)])) _
          refine XS.lload X0.here hx rfl (hb hby at_190) rfl ?_
          show Steps p.tables e below (T0.setTop (mkF m 192 #[.val (.long va), .second, .val (.long b0), .second, .val (.long c0), .second, .val (.long d0), .second, .val (.int fl), .val (.long vb), .second, .val (.long vc), .second, .val (.long vd), .second, .val (.int k), .val (.ref a), .val (.int n1), .unset, .unset] [(.long vc), (.long vd)])) _
          refine XS.lcmp X0.here hx rfl (hb hby at_192) rfl ?_
          show Steps p.tables e below (T0.setTop (mkF m 193 #[.val (.long va), .second, .val (.long b0), .second, .val (.long c0), .second, .val (.long d0), .second, .val (.int fl), .val (.long vb), .second, .val (.long vc), .second, .val (.long vd), .second, .val (.int k), .val (.ref a), .val (.int n1), .unset, .unset] [(.int (lcmpW vd vc))])) _
          refine XS.ifYes X0.here hx rfl (pc0 := 193) (pc' := 199) rfl (hb hby at_193) rfl ((if0 _ _).trans (teq ((lw_eq _ _).mpr hc193_4)).1) (by decide) (by decide) ?_
          exact kt
        · have hv : F = (n1 + (1 : Int32)) := (hF.trans (by rw [own_n_f167, if_pos hc170_1, if_neg hc177_2, if_neg hc185_3, if_neg hc193_4]))
          refine ⟨T0, X0, e0, fun target kt => ?_⟩
          rw [hv] at kt
          show Steps p.tables e below (T0.setTop (mkF m 167 #[.val (.long va), .second, .val (.long b0), .second, .val (.long c0), .second, .val (.long d0), .second, .val (.int fl), .val (.long vb), .second, .val (.long vc), .second, .val (.long vd), .second, .val (.int k), .val (.ref a), .val (.int n1), .unset, .unset] [])) _
          refine XS.iload X0.here hx rfl (hb hby at_167) rfl ?_
          show Steps p.tables e below (T0.setTop (mkF m 169 #[.val (.long va), .second, .val (.long b0), .second, .val (.long c0), .second, .val (.long d0), .second, .val (.int fl), .val (.long vb), .second, .val (.long vc), .second, .val (.long vd), .second, .val (.int k), .val (.ref a), .val (.int n1), .unset, .unset] [(.int k)])) _
          refine XS.iconst X0.here hx rfl (hb hby at_169) ?_
          show Steps p.tables e below (T0.setTop (mkF m 170 #[.val (.long va), .second, .val (.long b0), .second, .val (.long c0), .second, .val (.long d0), .second, .val (.int fl), .val (.long vb), .second, .val (.long vc), .second, .val (.long vd), .second, .val (.int k), .val (.ref a), .val (.int n1), .unset, .unset] [(.int (3 : Int32)), (.int k)])) _
          refine XS.icmpNo X0.here hx rfl (hb hby at_170) rfl (tlt hc170_1).2.2.2 ?_
          show Steps p.tables e below (T0.setTop (mkF m 173 #[.val (.long va), .second, .val (.long b0), .second, .val (.long c0), .second, .val (.long d0), .second, .val (.int fl), .val (.long vb), .second, .val (.long vc), .second, .val (.long vd), .second, .val (.int k), .val (.ref a), .val (.int n1), .unset, .unset] [])) _
          refine XS.lload X0.here hx rfl (hb hby at_173) rfl ?_
          show Steps p.tables e below (T0.setTop (mkF m 175 #[.val (.long va), .second, .val (.long b0), .second, .val (.long c0), .second, .val (.long d0), .second, .val (.int fl), .val (.long vb), .second, .val (.long vc), .second, .val (.long vd), .second, .val (.int k), .val (.ref a), .val (.int n1), .unset, .unset] [(.long vd)])) _
          refine XS.lloadN X0.here hx rfl (hb hby at_175) rfl ?_
          show Steps p.tables e below (T0.setTop (mkF m 176 #[.val (.long va), .second, .val (.long b0), .second, .val (.long c0), .second, .val (.long d0), .second, .val (.int fl), .val (.long vb), .second, .val (.long vc), .second, .val (.long vd), .second, .val (.int k), .val (.ref a), .val (.int n1), .unset, .unset] [(.long va), (.long vd)])) _
          refine XS.lcmp X0.here hx rfl (hb hby at_176) rfl ?_
          show Steps p.tables e below (T0.setTop (mkF m 177 #[.val (.long va), .second, .val (.long b0), .second, .val (.long c0), .second, .val (.long d0), .second, .val (.int fl), .val (.long vb), .second, .val (.long vc), .second, .val (.long vd), .second, .val (.int k), .val (.ref a), .val (.int n1), .unset, .unset] [(.int (lcmpW vd va))])) _
          refine XS.ifNo X0.here hx rfl (hb hby at_177) rfl ((if0 _ _).trans (feq (fun z => hc177_2 ((lw_eq _ _).mp z))).1) ?_
          show Steps p.tables e below (T0.setTop (mkF m 180 #[.val (.long va), .second, .val (.long b0), .second, .val (.long c0), .second, .val (.long d0), .second, .val (.int fl), .val (.long vb), .second, .val (.long vc), .second, .val (.long vd), .second, .val (.int k), .val (.ref a), .val (.int n1), .unset, .unset] [])) _
          refine XS.lload X0.here hx rfl (hb hby at_180) rfl ?_
          show Steps p.tables e below (T0.setTop (mkF m 182 #[.val (.long va), .second, .val (.long b0), .second, .val (.long c0), .second, .val (.long d0), .second, .val (.int fl), .val (.long vb), .second, .val (.long vc), .second, .val (.long vd), .second, .val (.int k), .val (.ref a), .val (.int n1), .unset, .unset] [(.long vd)])) _
          refine XS.lload X0.here hx rfl (hb hby at_182) rfl ?_
          show Steps p.tables e below (T0.setTop (mkF m 184 #[.val (.long va), .second, .val (.long b0), .second, .val (.long c0), .second, .val (.long d0), .second, .val (.int fl), .val (.long vb), .second, .val (.long vc), .second, .val (.long vd), .second, .val (.int k), .val (.ref a), .val (.int n1), .unset, .unset] [(.long vb), (.long vd)])) _
          refine XS.lcmp X0.here hx rfl (hb hby at_184) rfl ?_
          show Steps p.tables e below (T0.setTop (mkF m 185 #[.val (.long va), .second, .val (.long b0), .second, .val (.long c0), .second, .val (.long d0), .second, .val (.int fl), .val (.long vb), .second, .val (.long vc), .second, .val (.long vd), .second, .val (.int k), .val (.ref a), .val (.int n1), .unset, .unset] [(.int (lcmpW vd vb))])) _
          refine XS.ifNo X0.here hx rfl (hb hby at_185) rfl ((if0 _ _).trans (feq (fun z => hc185_3 ((lw_eq _ _).mp z))).1) ?_
          show Steps p.tables e below (T0.setTop (mkF m 188 #[.val (.long va), .second, .val (.long b0), .second, .val (.long c0), .second, .val (.long d0), .second, .val (.int fl), .val (.long vb), .second, .val (.long vc), .second, .val (.long vd), .second, .val (.int k), .val (.ref a), .val (.int n1), .unset, .unset] [])) _
          refine XS.lload X0.here hx rfl (hb hby at_188) rfl ?_
          show Steps p.tables e below (T0.setTop (mkF m 190 #[.val (.long va), .second, .val (.long b0), .second, .val (.long c0), .second, .val (.long d0), .second, .val (.int fl), .val (.long vb), .second, .val (.long vc), .second, .val (.long vd), .second, .val (.int k), .val (.ref a), .val (.int n1), .unset, .unset] [(.long vd)])) _
          refine XS.lload X0.here hx rfl (hb hby at_190) rfl ?_
          show Steps p.tables e below (T0.setTop (mkF m 192 #[.val (.long va), .second, .val (.long b0), .second, .val (.long c0), .second, .val (.long d0), .second, .val (.int fl), .val (.long vb), .second, .val (.long vc), .second, .val (.long vd), .second, .val (.int k), .val (.ref a), .val (.int n1), .unset, .unset] [(.long vc), (.long vd)])) _
          refine XS.lcmp X0.here hx rfl (hb hby at_192) rfl ?_
          show Steps p.tables e below (T0.setTop (mkF m 193 #[.val (.long va), .second, .val (.long b0), .second, .val (.long c0), .second, .val (.long d0), .second, .val (.int fl), .val (.long vb), .second, .val (.long vc), .second, .val (.long vd), .second, .val (.int k), .val (.ref a), .val (.int n1), .unset, .unset] [(.int (lcmpW vd vc))])) _
          refine XS.ifNo X0.here hx rfl (hb hby at_193) rfl ((if0 _ _).trans (feq (fun z => hc193_4 ((lw_eq _ _).mp z))).1) ?_
          show Steps p.tables e below (T0.setTop (mkF m 196 #[.val (.long va), .second, .val (.long b0), .second, .val (.long c0), .second, .val (.long d0), .second, .val (.int fl), .val (.long vb), .second, .val (.long vc), .second, .val (.long vd), .second, .val (.int k), .val (.ref a), .val (.int n1), .unset, .unset] [])) _
          refine XS.iinc X0.here hx rfl (hb hby at_196) rfl (l' := #[.val (.long va), .second, .val (.long b0), .second, .val (.long c0), .second, .val (.long d0), .second, .val (.int fl), .val (.long vb), .second, .val (.long vc), .second, .val (.long vd), .second, .val (.int k), .val (.ref a), .val (.int (n1 + (1 : Int32))), .unset, .unset]) rfl ?_
          exact kt
  · have hv : F = n1 := (hF.trans (by rw [own_n_f167, if_neg hc170_1]))
    refine ⟨T0, X0, e0, fun target kt => ?_⟩
    rw [hv] at kt
    show Steps p.tables e below (T0.setTop (mkF m 167 #[.val (.long va), .second, .val (.long b0), .second, .val (.long c0), .second, .val (.long d0), .second, .val (.int fl), .val (.long vb), .second, .val (.long vc), .second, .val (.long vd), .second, .val (.int k), .val (.ref a), .val (.int n1), .unset, .unset] [])) _
    refine XS.iload X0.here hx rfl (hb hby at_167) rfl ?_
    show Steps p.tables e below (T0.setTop (mkF m 169 #[.val (.long va), .second, .val (.long b0), .second, .val (.long c0), .second, .val (.long d0), .second, .val (.int fl), .val (.long vb), .second, .val (.long vc), .second, .val (.long vd), .second, .val (.int k), .val (.ref a), .val (.int n1), .unset, .unset] [(.int k)])) _
    refine XS.iconst X0.here hx rfl (hb hby at_169) ?_
    show Steps p.tables e below (T0.setTop (mkF m 170 #[.val (.long va), .second, .val (.long b0), .second, .val (.long c0), .second, .val (.long d0), .second, .val (.int fl), .val (.long vb), .second, .val (.long vc), .second, .val (.long vd), .second, .val (.int k), .val (.ref a), .val (.int n1), .unset, .unset] [(.int (3 : Int32)), (.int k)])) _
    refine XS.icmpYes X0.here hx rfl (pc0 := 170) (pc' := 199) rfl (hb hby at_170) rfl (flt hc170_1).2.2.2 (by decide) (by decide) ?_
    exact kt
def own_n_f143 (va : Int64) (b0 : Int64) (c0 : Int64) (d0 : Int64) (fl : Int32) (vb : Int64) (vc : Int64) (vd : Int64) (k : Int32) (a : Addr) (n1 : Int32) : Int32 := (if (2 : Int32) < k then (if vc = va then (own_n_f167 va b0 c0 d0 fl vb vc vd k a n1) else (if vc = vb then (own_n_f167 va b0 c0 d0 fl vb vc vd k a n1) else (own_n_f167 va b0 c0 d0 fl vb vc vd k a (n1 + (1 : Int32))))) else (own_n_f167 va b0 c0 d0 fl vb vc vd k a n1))
set_option maxRecDepth 65536 in
set_option maxHeartbeats 40000000 in
theorem own_n_b143 {p : Program} {l : Launch} {e : Env} {R : Room} {s : State} {m : MethodId} {args : Array Value} {below : List Frame} {meth : Method} {c : Code} {T0 : State} {locs : List Loc} {cells slots : Nat} {Z : State} {a0 : Array Value} {h0 : Heap} (va : Int64) (b0 : Int64) (c0 : Int64) (d0 : Int64) (fl : Int32) (vb : Int64) (vc : Int64) (vd : Int64) (k : Int32) (a : Addr) (n1 : Int32)
    (X0 : Stand p l e R s m args below meth c T0 locs cells slots) (hx : p.tables.exec = Jvm.exec) (hZ : Z.Warmed39 s.vm) (hw : ∀ d ∈ tables_1, d.before a0 Z = true) (hby : c.code = code) (hml : c.maxLocals = 20) (hown : s.vm.findClass "com/example/intact_keys/intactkeys/check/KeySetPackedValuesPinLaw" = some m.cls) (e0 : T0.heap = h0)  (F : Int32) (hF : F = own_n_f143 va b0 c0 d0 fl vb vc vd k a n1) :
    ∃ (T' : State), Stand p l e R s m args below meth c T' locs cells slots ∧ T'.heap = h0 ∧
      ∀ target, Steps p.tables e below (T'.setTop (mkF m 199 #[.val (.long va), .second, .val (.long b0), .second, .val (.long c0), .second, .val (.long d0), .second, .val (.int fl), .val (.long vb), .second, .val (.long vc), .second, .val (.long vd), .second, .val (.int k), .val (.ref a), .val (.int F), .unset, .unset] [])) target → Steps p.tables e below (T0.setTop (mkF m 143 #[.val (.long va), .second, .val (.long b0), .second, .val (.long c0), .second, .val (.long d0), .second, .val (.int fl), .val (.long vb), .second, .val (.long vc), .second, .val (.long vd), .second, .val (.int k), .val (.ref a), .val (.int n1), .unset, .unset] [])) target := by
  by_cases hc146_1 : (2 : Int32) < k
  · by_cases hc153_2 : vc = va
    · obtain ⟨T', X', e', st'⟩ := own_n_b167 va b0 c0 d0 fl vb vc vd k a n1 X0 hx hZ hw hby hml hown e0  F (hF.trans (by rw [own_n_f143, if_pos hc146_1, if_pos hc153_2]))
      refine ⟨T', X', e', fun target kt => ?_⟩
      show Steps p.tables e below (T0.setTop (mkF m 143 #[.val (.long va), .second, .val (.long b0), .second, .val (.long c0), .second, .val (.long d0), .second, .val (.int fl), .val (.long vb), .second, .val (.long vc), .second, .val (.long vd), .second, .val (.int k), .val (.ref a), .val (.int n1), .unset, .unset] [])) _
      refine XS.iload X0.here hx rfl (hb hby at_143) rfl ?_
      show Steps p.tables e below (T0.setTop (mkF m 145 #[.val (.long va), .second, .val (.long b0), .second, .val (.long c0), .second, .val (.long d0), .second, .val (.int fl), .val (.long vb), .second, .val (.long vc), .second, .val (.long vd), .second, .val (.int k), .val (.ref a), .val (.int n1), .unset, .unset] [(.int k)])) _
      refine XS.iconst X0.here hx rfl (hb hby at_145) ?_
      show Steps p.tables e below (T0.setTop (mkF m 146 #[.val (.long va), .second, .val (.long b0), .second, .val (.long c0), .second, .val (.long d0), .second, .val (.int fl), .val (.long vb), .second, .val (.long vc), .second, .val (.long vd), .second, .val (.int k), .val (.ref a), .val (.int n1), .unset, .unset] [(.int (2 : Int32)), (.int k)])) _
      refine XS.icmpNo X0.here hx rfl (hb hby at_146) rfl (tlt hc146_1).2.2.2 ?_
      show Steps p.tables e below (T0.setTop (mkF m 149 #[.val (.long va), .second, .val (.long b0), .second, .val (.long c0), .second, .val (.long d0), .second, .val (.int fl), .val (.long vb), .second, .val (.long vc), .second, .val (.long vd), .second, .val (.int k), .val (.ref a), .val (.int n1), .unset, .unset] [])) _
      refine XS.lload X0.here hx rfl (hb hby at_149) rfl ?_
      show Steps p.tables e below (T0.setTop (mkF m 151 #[.val (.long va), .second, .val (.long b0), .second, .val (.long c0), .second, .val (.long d0), .second, .val (.int fl), .val (.long vb), .second, .val (.long vc), .second, .val (.long vd), .second, .val (.int k), .val (.ref a), .val (.int n1), .unset, .unset] [(.long vc)])) _
      refine XS.lloadN X0.here hx rfl (hb hby at_151) rfl ?_
      show Steps p.tables e below (T0.setTop (mkF m 152 #[.val (.long va), .second, .val (.long b0), .second, .val (.long c0), .second, .val (.long d0), .second, .val (.int fl), .val (.long vb), .second, .val (.long vc), .second, .val (.long vd), .second, .val (.int k), .val (.ref a), .val (.int n1), .unset, .unset] [(.long va), (.long vc)])) _
      refine XS.lcmp X0.here hx rfl (hb hby at_152) rfl ?_
      show Steps p.tables e below (T0.setTop (mkF m 153 #[.val (.long va), .second, .val (.long b0), .second, .val (.long c0), .second, .val (.long d0), .second, .val (.int fl), .val (.long vb), .second, .val (.long vc), .second, .val (.long vd), .second, .val (.int k), .val (.ref a), .val (.int n1), .unset, .unset] [(.int (lcmpW vc va))])) _
      refine XS.ifYes X0.here hx rfl (pc0 := 153) (pc' := 167) rfl (hb hby at_153) rfl ((if0 _ _).trans (teq ((lw_eq _ _).mpr hc153_2)).1) (by decide) (by decide) ?_
      exact st' target kt
    · by_cases hc161_3 : vc = vb
      · obtain ⟨T', X', e', st'⟩ := own_n_b167 va b0 c0 d0 fl vb vc vd k a n1 X0 hx hZ hw hby hml hown e0  F (hF.trans (by rw [own_n_f143, if_pos hc146_1, if_neg hc153_2, if_pos hc161_3]))
        refine ⟨T', X', e', fun target kt => ?_⟩
        show Steps p.tables e below (T0.setTop (mkF m 143 #[.val (.long va), .second, .val (.long b0), .second, .val (.long c0), .second, .val (.long d0), .second, .val (.int fl), .val (.long vb), .second, .val (.long vc), .second, .val (.long vd), .second, .val (.int k), .val (.ref a), .val (.int n1), .unset, .unset] [])) _
        refine XS.iload X0.here hx rfl (hb hby at_143) rfl ?_
        show Steps p.tables e below (T0.setTop (mkF m 145 #[.val (.long va), .second, .val (.long b0), .second, .val (.long c0), .second, .val (.long d0), .second, .val (.int fl), .val (.long vb), .second, .val (.long vc), .second, .val (.long vd), .second, .val (.int k), .val (.ref a), .val (.int n1), .unset, .unset] [(.int k)])) _
        refine XS.iconst X0.here hx rfl (hb hby at_145) ?_
        show Steps p.tables e below (T0.setTop (mkF m 146 #[.val (.long va), .second, .val (.long b0), .second, .val (.long c0), .second, .val (.long d0), .second, .val (.int fl), .val (.long vb), .second, .val (.long vc), .second, .val (.long vd), .second, .val (.int k), .val (.ref a), .val (.int n1), .unset, .unset] [(.int (2 : Int32)), (.int k)])) _
        refine XS.icmpNo X0.here hx rfl (hb hby at_146) rfl (tlt hc146_1).2.2.2 ?_
        show Steps p.tables e below (T0.setTop (mkF m 149 #[.val (.long va), .second, .val (.long b0), .second, .val (.long c0), .second, .val (.long d0), .second, .val (.int fl), .val (.long vb), .second, .val (.long vc), .second, .val (.long vd), .second, .val (.int k), .val (.ref a), .val (.int n1), .unset, .unset] [])) _
        refine XS.lload X0.here hx rfl (hb hby at_149) rfl ?_
        show Steps p.tables e below (T0.setTop (mkF m 151 #[.val (.long va), .second, .val (.long b0), .second, .val (.long c0), .second, .val (.long d0), .second, .val (.int fl), .val (.long vb), .second, .val (.long vc), .second, .val (.long vd), .second, .val (.int k), .val (.ref a), .val (.int n1), .unset, .unset] [(.long vc)])) _
        refine XS.lloadN X0.here hx rfl (hb hby at_151) rfl ?_
        show Steps p.tables e below (T0.setTop (mkF m 152 #[.val (.long va), .second, .val (.long b0), .second, .val (.long c0), .second, .val (.long d0), .second, .val (.int fl), .val (.long vb), .second, .val (.long vc), .second, .val (.long vd), .second, .val (.int k), .val (.ref a), .val (.int n1), .unset, .unset] [(.long va), (.long vc)])) _
        refine XS.lcmp X0.here hx rfl (hb hby at_152) rfl ?_
        show Steps p.tables e below (T0.setTop (mkF m 153 #[.val (.long va), .second, .val (.long b0), .second, .val (.long c0), .second, .val (.long d0), .second, .val (.int fl), .val (.long vb), .second, .val (.long vc), .second, .val (.long vd), .second, .val (.int k), .val (.ref a), .val (.int n1), .unset, .unset] [(.int (lcmpW vc va))])) _
        refine XS.ifNo X0.here hx rfl (hb hby at_153) rfl ((if0 _ _).trans (feq (fun z => hc153_2 ((lw_eq _ _).mp z))).1) ?_
        show Steps p.tables e below (T0.setTop (mkF m 156 #[.val (.long va), .second, .val (.long b0), .second, .val (.long c0), .second, .val (.long d0), .second, .val (.int fl), .val (.long vb), .second, .val (.long vc), .second, .val (.long vd), .second, .val (.int k), .val (.ref a), .val (.int n1), .unset, .unset] [])) _
        refine XS.lload X0.here hx rfl (hb hby at_156) rfl ?_
        show Steps p.tables e below (T0.setTop (mkF m 158 #[.val (.long va), .second, .val (.long b0), .second, .val (.long c0), .second, .val (.long d0), .second, .val (.int fl), .val (.long vb), .second, .val (.long vc), .second, .val (.long vd), .second, .val (.int k), .val (.ref a), .val (.int n1), .unset, .unset] [(.long vc)])) _
        refine XS.lload X0.here hx rfl (hb hby at_158) rfl ?_
        show Steps p.tables e below (T0.setTop (mkF m 160 #[.val (.long va), .second, .val (.long b0), .second, .val (.long c0), .second, .val (.long d0), .second, .val (.int fl), .val (.long vb), .second, .val (.long vc), .second, .val (.long vd), .second, .val (.int k), .val (.ref a), .val (.int n1), .unset, .unset] [(.long vb), (.long vc)])) _
        refine XS.lcmp X0.here hx rfl (hb hby at_160) rfl ?_
        show Steps p.tables e below (T0.setTop (mkF m 161 #[.val (.long va), .second, .val (.long b0), .second, .val (.long c0), .second, .val (.long d0), .second, .val (.int fl), .val (.long vb), .second, .val (.long vc), .second, .val (.long vd), .second, .val (.int k), .val (.ref a), .val (.int n1), .unset, .unset] [(.int (lcmpW vc vb))])) _
        refine XS.ifYes X0.here hx rfl (pc0 := 161) (pc' := 167) rfl (hb hby at_161) rfl ((if0 _ _).trans (teq ((lw_eq _ _).mpr hc161_3)).1) (by decide) (by decide) ?_
        exact st' target kt
      · obtain ⟨T', X', e', st'⟩ := own_n_b167 va b0 c0 d0 fl vb vc vd k a (n1 + (1 : Int32)) X0 hx hZ hw hby hml hown e0  F (hF.trans (by rw [own_n_f143, if_pos hc146_1, if_neg hc153_2, if_neg hc161_3]))
        refine ⟨T', X', e', fun target kt => ?_⟩
        show Steps p.tables e below (T0.setTop (mkF m 143 #[.val (.long va), .second, .val (.long b0), .second, .val (.long c0), .second, .val (.long d0), .second, .val (.int fl), .val (.long vb), .second, .val (.long vc), .second, .val (.long vd), .second, .val (.int k), .val (.ref a), .val (.int n1), .unset, .unset] [])) _
        refine XS.iload X0.here hx rfl (hb hby at_143) rfl ?_
        show Steps p.tables e below (T0.setTop (mkF m 145 #[.val (.long va), .second, .val (.long b0), .second, .val (.long c0), .second, .val (.long d0), .second, .val (.int fl), .val (.long vb), .second, .val (.long vc), .second, .val (.long vd), .second, .val (.int k), .val (.ref a), .val (.int n1), .unset, .unset] [(.int k)])) _
        refine XS.iconst X0.here hx rfl (hb hby at_145) ?_
        show Steps p.tables e below (T0.setTop (mkF m 146 #[.val (.long va), .second, .val (.long b0), .second, .val (.long c0), .second, .val (.long d0), .second, .val (.int fl), .val (.long vb), .second, .val (.long vc), .second, .val (.long vd), .second, .val (.int k), .val (.ref a), .val (.int n1), .unset, .unset] [(.int (2 : Int32)), (.int k)])) _
        refine XS.icmpNo X0.here hx rfl (hb hby at_146) rfl (tlt hc146_1).2.2.2 ?_
        show Steps p.tables e below (T0.setTop (mkF m 149 #[.val (.long va), .second, .val (.long b0), .second, .val (.long c0), .second, .val (.long d0), .second, .val (.int fl), .val (.long vb), .second, .val (.long vc), .second, .val (.long vd), .second, .val (.int k), .val (.ref a), .val (.int n1), .unset, .unset] [])) _
        refine XS.lload X0.here hx rfl (hb hby at_149) rfl ?_
        show Steps p.tables e below (T0.setTop (mkF m 151 #[.val (.long va), .second, .val (.long b0), .second, .val (.long c0), .second, .val (.long d0), .second, .val (.int fl), .val (.long vb), .second, .val (.long vc), .second, .val (.long vd), .second, .val (.int k), .val (.ref a), .val (.int n1), .unset, .unset] [(.long vc)])) _
        refine XS.lloadN X0.here hx rfl (hb hby at_151) rfl ?_
        show Steps p.tables e below (T0.setTop (mkF m 152 #[.val (.long va), .second, .val (.long b0), .second, .val (.long c0), .second, .val (.long d0), .second, .val (.int fl), .val (.long vb), .second, .val (.long vc), .second, .val (.long vd), .second, .val (.int k), .val (.ref a), .val (.int n1), .unset, .unset] [(.long va), (.long vc)])) _
        refine XS.lcmp X0.here hx rfl (hb hby at_152) rfl ?_
        show Steps p.tables e below (T0.setTop (mkF m 153 #[.val (.long va), .second, .val (.long b0), .second, .val (.long c0), .second, .val (.long d0), .second, .val (.int fl), .val (.long vb), .second, .val (.long vc), .second, .val (.long vd), .second, .val (.int k), .val (.ref a), .val (.int n1), .unset, .unset] [(.int (lcmpW vc va))])) _
        refine XS.ifNo X0.here hx rfl (hb hby at_153) rfl ((if0 _ _).trans (feq (fun z => hc153_2 ((lw_eq _ _).mp z))).1) ?_
        show Steps p.tables e below (T0.setTop (mkF m 156 #[.val (.long va), .second, .val (.long b0), .second, .val (.long c0), .second, .val (.long d0), .second, .val (.int fl), .val (.long vb), .second, .val (.long vc), .second, .val (.long vd), .second, .val (.int k), .val (.ref a), .val (.int n1), .unset, .unset] [])) _
        refine XS.lload X0.here hx rfl (hb hby at_156) rfl ?_
        show Steps p.tables e below (T0.setTop (mkF m 158 #[.val (.long va), .second, .val (.long b0), .second, .val (.long c0), .second, .val (.long d0), .second, .val (.int fl), .val (.long vb), .second, .val (.long vc), .second, .val (.long vd), .second, .val (.int k), .val (.ref a), .val (.int n1), .unset, .unset] [(.long vc)])) _
        refine XS.lload X0.here hx rfl (hb hby at_158) rfl ?_
        show Steps p.tables e below (T0.setTop (mkF m 160 #[.val (.long va), .second, .val (.long b0), .second, .val (.long c0), .second, .val (.long d0), .second, .val (.int fl), .val (.long vb), .second, .val (.long vc), .second, .val (.long vd), .second, .val (.int k), .val (.ref a), .val (.int n1), .unset, .unset] [(.long vb), (.long vc)])) _
        refine XS.lcmp X0.here hx rfl (hb hby at_160) rfl ?_
        show Steps p.tables e below (T0.setTop (mkF m 161 #[.val (.long va), .second, .val (.long b0), .second, .val (.long c0), .second, .val (.long d0), .second, .val (.int fl), .val (.long vb), .second, .val (.long vc), .second, .val (.long vd), .second, .val (.int k), .val (.ref a), .val (.int n1), .unset, .unset] [(.int (lcmpW vc vb))])) _
        refine XS.ifNo X0.here hx rfl (hb hby at_161) rfl ((if0 _ _).trans (feq (fun z => hc161_3 ((lw_eq _ _).mp z))).1) ?_
        show Steps p.tables e below (T0.setTop (mkF m 164 #[.val (.long va), .second, .val (.long b0), .second, .val (.long c0), .second, .val (.long d0), .second, .val (.int fl), .val (.long vb), .second, .val (.long vc), .second, .val (.long vd), .second, .val (.int k), .val (.ref a), .val (.int n1), .unset, .unset] [])) _
        refine XS.iinc X0.here hx rfl (hb hby at_164) rfl (l' := #[.val (.long va), .second, .val (.long b0), .second, .val (.long c0), .second, .val (.long d0), .second, .val (.int fl), .val (.long vb), .second, .val (.long vc), .second, .val (.long vd), .second, .val (.int k), .val (.ref a), .val (.int (n1 + (1 : Int32))), .unset, .unset]) rfl ?_
        exact st' target kt
  · obtain ⟨T', X', e', st'⟩ := own_n_b167 va b0 c0 d0 fl vb vc vd k a n1 X0 hx hZ hw hby hml hown e0  F (hF.trans (by rw [own_n_f143, if_neg hc146_1]))
    refine ⟨T', X', e', fun target kt => ?_⟩
    show Steps p.tables e below (T0.setTop (mkF m 143 #[.val (.long va), .second, .val (.long b0), .second, .val (.long c0), .second, .val (.long d0), .second, .val (.int fl), .val (.long vb), .second, .val (.long vc), .second, .val (.long vd), .second, .val (.int k), .val (.ref a), .val (.int n1), .unset, .unset] [])) _
    refine XS.iload X0.here hx rfl (hb hby at_143) rfl ?_
    show Steps p.tables e below (T0.setTop (mkF m 145 #[.val (.long va), .second, .val (.long b0), .second, .val (.long c0), .second, .val (.long d0), .second, .val (.int fl), .val (.long vb), .second, .val (.long vc), .second, .val (.long vd), .second, .val (.int k), .val (.ref a), .val (.int n1), .unset, .unset] [(.int k)])) _
    refine XS.iconst X0.here hx rfl (hb hby at_145) ?_
    show Steps p.tables e below (T0.setTop (mkF m 146 #[.val (.long va), .second, .val (.long b0), .second, .val (.long c0), .second, .val (.long d0), .second, .val (.int fl), .val (.long vb), .second, .val (.long vc), .second, .val (.long vd), .second, .val (.int k), .val (.ref a), .val (.int n1), .unset, .unset] [(.int (2 : Int32)), (.int k)])) _
    refine XS.icmpYes X0.here hx rfl (pc0 := 146) (pc' := 167) rfl (hb hby at_146) rfl (flt hc146_1).2.2.2 (by decide) (by decide) ?_
    exact st' target kt
def own_n_f127 (va : Int64) (b0 : Int64) (c0 : Int64) (d0 : Int64) (fl : Int32) (vb : Int64) (vc : Int64) (vd : Int64) (k : Int32) (a : Addr) (n1 : Int32) : Int32 := (if (1 : Int32) < k then (if vb = va then (own_n_f143 va b0 c0 d0 fl vb vc vd k a n1) else (own_n_f143 va b0 c0 d0 fl vb vc vd k a (n1 + (1 : Int32)))) else (own_n_f143 va b0 c0 d0 fl vb vc vd k a n1))
set_option maxRecDepth 65536 in
set_option maxHeartbeats 40000000 in
theorem own_n_b127 {p : Program} {l : Launch} {e : Env} {R : Room} {s : State} {m : MethodId} {args : Array Value} {below : List Frame} {meth : Method} {c : Code} {T0 : State} {locs : List Loc} {cells slots : Nat} {Z : State} {a0 : Array Value} {h0 : Heap} (va : Int64) (b0 : Int64) (c0 : Int64) (d0 : Int64) (fl : Int32) (vb : Int64) (vc : Int64) (vd : Int64) (k : Int32) (a : Addr) (n1 : Int32)
    (X0 : Stand p l e R s m args below meth c T0 locs cells slots) (hx : p.tables.exec = Jvm.exec) (hZ : Z.Warmed39 s.vm) (hw : ∀ d ∈ tables_1, d.before a0 Z = true) (hby : c.code = code) (hml : c.maxLocals = 20) (hown : s.vm.findClass "com/example/intact_keys/intactkeys/check/KeySetPackedValuesPinLaw" = some m.cls) (e0 : T0.heap = h0)  (F : Int32) (hF : F = own_n_f127 va b0 c0 d0 fl vb vc vd k a n1) :
    ∃ (T' : State), Stand p l e R s m args below meth c T' locs cells slots ∧ T'.heap = h0 ∧
      ∀ target, Steps p.tables e below (T'.setTop (mkF m 199 #[.val (.long va), .second, .val (.long b0), .second, .val (.long c0), .second, .val (.long d0), .second, .val (.int fl), .val (.long vb), .second, .val (.long vc), .second, .val (.long vd), .second, .val (.int k), .val (.ref a), .val (.int F), .unset, .unset] [])) target → Steps p.tables e below (T0.setTop (mkF m 127 #[.val (.long va), .second, .val (.long b0), .second, .val (.long c0), .second, .val (.long d0), .second, .val (.int fl), .val (.long vb), .second, .val (.long vc), .second, .val (.long vd), .second, .val (.int k), .val (.ref a), .val (.int n1), .unset, .unset] [])) target := by
  by_cases hc130_1 : (1 : Int32) < k
  · by_cases hc137_2 : vb = va
    · obtain ⟨T', X', e', st'⟩ := own_n_b143 va b0 c0 d0 fl vb vc vd k a n1 X0 hx hZ hw hby hml hown e0  F (hF.trans (by rw [own_n_f127, if_pos hc130_1, if_pos hc137_2]))
      refine ⟨T', X', e', fun target kt => ?_⟩
      show Steps p.tables e below (T0.setTop (mkF m 127 #[.val (.long va), .second, .val (.long b0), .second, .val (.long c0), .second, .val (.long d0), .second, .val (.int fl), .val (.long vb), .second, .val (.long vc), .second, .val (.long vd), .second, .val (.int k), .val (.ref a), .val (.int n1), .unset, .unset] [])) _
      refine XS.iload X0.here hx rfl (hb hby at_127) rfl ?_
      show Steps p.tables e below (T0.setTop (mkF m 129 #[.val (.long va), .second, .val (.long b0), .second, .val (.long c0), .second, .val (.long d0), .second, .val (.int fl), .val (.long vb), .second, .val (.long vc), .second, .val (.long vd), .second, .val (.int k), .val (.ref a), .val (.int n1), .unset, .unset] [(.int k)])) _
      refine XS.iconst X0.here hx rfl (hb hby at_129) ?_
      show Steps p.tables e below (T0.setTop (mkF m 130 #[.val (.long va), .second, .val (.long b0), .second, .val (.long c0), .second, .val (.long d0), .second, .val (.int fl), .val (.long vb), .second, .val (.long vc), .second, .val (.long vd), .second, .val (.int k), .val (.ref a), .val (.int n1), .unset, .unset] [(.int (1 : Int32)), (.int k)])) _
      refine XS.icmpNo X0.here hx rfl (hb hby at_130) rfl (tlt hc130_1).2.2.2 ?_
      show Steps p.tables e below (T0.setTop (mkF m 133 #[.val (.long va), .second, .val (.long b0), .second, .val (.long c0), .second, .val (.long d0), .second, .val (.int fl), .val (.long vb), .second, .val (.long vc), .second, .val (.long vd), .second, .val (.int k), .val (.ref a), .val (.int n1), .unset, .unset] [])) _
      refine XS.lload X0.here hx rfl (hb hby at_133) rfl ?_
      show Steps p.tables e below (T0.setTop (mkF m 135 #[.val (.long va), .second, .val (.long b0), .second, .val (.long c0), .second, .val (.long d0), .second, .val (.int fl), .val (.long vb), .second, .val (.long vc), .second, .val (.long vd), .second, .val (.int k), .val (.ref a), .val (.int n1), .unset, .unset] [(.long vb)])) _
      refine XS.lloadN X0.here hx rfl (hb hby at_135) rfl ?_
      show Steps p.tables e below (T0.setTop (mkF m 136 #[.val (.long va), .second, .val (.long b0), .second, .val (.long c0), .second, .val (.long d0), .second, .val (.int fl), .val (.long vb), .second, .val (.long vc), .second, .val (.long vd), .second, .val (.int k), .val (.ref a), .val (.int n1), .unset, .unset] [(.long va), (.long vb)])) _
      refine XS.lcmp X0.here hx rfl (hb hby at_136) rfl ?_
      show Steps p.tables e below (T0.setTop (mkF m 137 #[.val (.long va), .second, .val (.long b0), .second, .val (.long c0), .second, .val (.long d0), .second, .val (.int fl), .val (.long vb), .second, .val (.long vc), .second, .val (.long vd), .second, .val (.int k), .val (.ref a), .val (.int n1), .unset, .unset] [(.int (lcmpW vb va))])) _
      refine XS.ifYes X0.here hx rfl (pc0 := 137) (pc' := 143) rfl (hb hby at_137) rfl ((if0 _ _).trans (teq ((lw_eq _ _).mpr hc137_2)).1) (by decide) (by decide) ?_
      exact st' target kt
    · obtain ⟨T', X', e', st'⟩ := own_n_b143 va b0 c0 d0 fl vb vc vd k a (n1 + (1 : Int32)) X0 hx hZ hw hby hml hown e0  F (hF.trans (by rw [own_n_f127, if_pos hc130_1, if_neg hc137_2]))
      refine ⟨T', X', e', fun target kt => ?_⟩
      show Steps p.tables e below (T0.setTop (mkF m 127 #[.val (.long va), .second, .val (.long b0), .second, .val (.long c0), .second, .val (.long d0), .second, .val (.int fl), .val (.long vb), .second, .val (.long vc), .second, .val (.long vd), .second, .val (.int k), .val (.ref a), .val (.int n1), .unset, .unset] [])) _
      refine XS.iload X0.here hx rfl (hb hby at_127) rfl ?_
      show Steps p.tables e below (T0.setTop (mkF m 129 #[.val (.long va), .second, .val (.long b0), .second, .val (.long c0), .second, .val (.long d0), .second, .val (.int fl), .val (.long vb), .second, .val (.long vc), .second, .val (.long vd), .second, .val (.int k), .val (.ref a), .val (.int n1), .unset, .unset] [(.int k)])) _
      refine XS.iconst X0.here hx rfl (hb hby at_129) ?_
      show Steps p.tables e below (T0.setTop (mkF m 130 #[.val (.long va), .second, .val (.long b0), .second, .val (.long c0), .second, .val (.long d0), .second, .val (.int fl), .val (.long vb), .second, .val (.long vc), .second, .val (.long vd), .second, .val (.int k), .val (.ref a), .val (.int n1), .unset, .unset] [(.int (1 : Int32)), (.int k)])) _
      refine XS.icmpNo X0.here hx rfl (hb hby at_130) rfl (tlt hc130_1).2.2.2 ?_
      show Steps p.tables e below (T0.setTop (mkF m 133 #[.val (.long va), .second, .val (.long b0), .second, .val (.long c0), .second, .val (.long d0), .second, .val (.int fl), .val (.long vb), .second, .val (.long vc), .second, .val (.long vd), .second, .val (.int k), .val (.ref a), .val (.int n1), .unset, .unset] [])) _
      refine XS.lload X0.here hx rfl (hb hby at_133) rfl ?_
      show Steps p.tables e below (T0.setTop (mkF m 135 #[.val (.long va), .second, .val (.long b0), .second, .val (.long c0), .second, .val (.long d0), .second, .val (.int fl), .val (.long vb), .second, .val (.long vc), .second, .val (.long vd), .second, .val (.int k), .val (.ref a), .val (.int n1), .unset, .unset] [(.long vb)])) _
      refine XS.lloadN X0.here hx rfl (hb hby at_135) rfl ?_
      show Steps p.tables e below (T0.setTop (mkF m 136 #[.val (.long va), .second, .val (.long b0), .second, .val (.long c0), .second, .val (.long d0), .second, .val (.int fl), .val (.long vb), .second, .val (.long vc), .second, .val (.long vd), .second, .val (.int k), .val (.ref a), .val (.int n1), .unset, .unset] [(.long va), (.long vb)])) _
      refine XS.lcmp X0.here hx rfl (hb hby at_136) rfl ?_
      show Steps p.tables e below (T0.setTop (mkF m 137 #[.val (.long va), .second, .val (.long b0), .second, .val (.long c0), .second, .val (.long d0), .second, .val (.int fl), .val (.long vb), .second, .val (.long vc), .second, .val (.long vd), .second, .val (.int k), .val (.ref a), .val (.int n1), .unset, .unset] [(.int (lcmpW vb va))])) _
      refine XS.ifNo X0.here hx rfl (hb hby at_137) rfl ((if0 _ _).trans (feq (fun z => hc137_2 ((lw_eq _ _).mp z))).1) ?_
      show Steps p.tables e below (T0.setTop (mkF m 140 #[.val (.long va), .second, .val (.long b0), .second, .val (.long c0), .second, .val (.long d0), .second, .val (.int fl), .val (.long vb), .second, .val (.long vc), .second, .val (.long vd), .second, .val (.int k), .val (.ref a), .val (.int n1), .unset, .unset] [])) _
      refine XS.iinc X0.here hx rfl (hb hby at_140) rfl (l' := #[.val (.long va), .second, .val (.long b0), .second, .val (.long c0), .second, .val (.long d0), .second, .val (.int fl), .val (.long vb), .second, .val (.long vc), .second, .val (.long vd), .second, .val (.int k), .val (.ref a), .val (.int (n1 + (1 : Int32))), .unset, .unset]) rfl ?_
      exact st' target kt
  · obtain ⟨T', X', e', st'⟩ := own_n_b143 va b0 c0 d0 fl vb vc vd k a n1 X0 hx hZ hw hby hml hown e0  F (hF.trans (by rw [own_n_f127, if_neg hc130_1]))
    refine ⟨T', X', e', fun target kt => ?_⟩
    show Steps p.tables e below (T0.setTop (mkF m 127 #[.val (.long va), .second, .val (.long b0), .second, .val (.long c0), .second, .val (.long d0), .second, .val (.int fl), .val (.long vb), .second, .val (.long vc), .second, .val (.long vd), .second, .val (.int k), .val (.ref a), .val (.int n1), .unset, .unset] [])) _
    refine XS.iload X0.here hx rfl (hb hby at_127) rfl ?_
    show Steps p.tables e below (T0.setTop (mkF m 129 #[.val (.long va), .second, .val (.long b0), .second, .val (.long c0), .second, .val (.long d0), .second, .val (.int fl), .val (.long vb), .second, .val (.long vc), .second, .val (.long vd), .second, .val (.int k), .val (.ref a), .val (.int n1), .unset, .unset] [(.int k)])) _
    refine XS.iconst X0.here hx rfl (hb hby at_129) ?_
    show Steps p.tables e below (T0.setTop (mkF m 130 #[.val (.long va), .second, .val (.long b0), .second, .val (.long c0), .second, .val (.long d0), .second, .val (.int fl), .val (.long vb), .second, .val (.long vc), .second, .val (.long vd), .second, .val (.int k), .val (.ref a), .val (.int n1), .unset, .unset] [(.int (1 : Int32)), (.int k)])) _
    refine XS.icmpYes X0.here hx rfl (pc0 := 130) (pc' := 143) rfl (hb hby at_130) rfl (flt hc130_1).2.2.2 (by decide) (by decide) ?_
    exact st' target kt
def own_n_f119 (va : Int64) (b0 : Int64) (c0 : Int64) (d0 : Int64) (fl : Int32) (vb : Int64) (vc : Int64) (vd : Int64) (k : Int32) (a : Addr) (n1 : Int32) : Int32 := (if (0 : Int32) < k then (own_n_f127 va b0 c0 d0 fl vb vc vd k a (n1 + (1 : Int32))) else (own_n_f127 va b0 c0 d0 fl vb vc vd k a n1))
set_option maxRecDepth 65536 in
set_option maxHeartbeats 40000000 in
theorem own_n_b119 {p : Program} {l : Launch} {e : Env} {R : Room} {s : State} {m : MethodId} {args : Array Value} {below : List Frame} {meth : Method} {c : Code} {T0 : State} {locs : List Loc} {cells slots : Nat} {Z : State} {a0 : Array Value} {h0 : Heap} (va : Int64) (b0 : Int64) (c0 : Int64) (d0 : Int64) (fl : Int32) (vb : Int64) (vc : Int64) (vd : Int64) (k : Int32) (a : Addr) (n1 : Int32)
    (X0 : Stand p l e R s m args below meth c T0 locs cells slots) (hx : p.tables.exec = Jvm.exec) (hZ : Z.Warmed39 s.vm) (hw : ∀ d ∈ tables_1, d.before a0 Z = true) (hby : c.code = code) (hml : c.maxLocals = 20) (hown : s.vm.findClass "com/example/intact_keys/intactkeys/check/KeySetPackedValuesPinLaw" = some m.cls) (e0 : T0.heap = h0)  (F : Int32) (hF : F = own_n_f119 va b0 c0 d0 fl vb vc vd k a n1) :
    ∃ (T' : State), Stand p l e R s m args below meth c T' locs cells slots ∧ T'.heap = h0 ∧
      ∀ target, Steps p.tables e below (T'.setTop (mkF m 199 #[.val (.long va), .second, .val (.long b0), .second, .val (.long c0), .second, .val (.long d0), .second, .val (.int fl), .val (.long vb), .second, .val (.long vc), .second, .val (.long vd), .second, .val (.int k), .val (.ref a), .val (.int F), .unset, .unset] [])) target → Steps p.tables e below (T0.setTop (mkF m 119 #[.val (.long va), .second, .val (.long b0), .second, .val (.long c0), .second, .val (.long d0), .second, .val (.int fl), .val (.long vb), .second, .val (.long vc), .second, .val (.long vd), .second, .val (.int k), .val (.ref a), .val (.int n1), .unset, .unset] [])) target := by
  by_cases hc121_1 : (0 : Int32) < k
  · obtain ⟨T', X', e', st'⟩ := own_n_b127 va b0 c0 d0 fl vb vc vd k a (n1 + (1 : Int32)) X0 hx hZ hw hby hml hown e0  F (hF.trans (by rw [own_n_f119, if_pos hc121_1]))
    refine ⟨T', X', e', fun target kt => ?_⟩
    show Steps p.tables e below (T0.setTop (mkF m 119 #[.val (.long va), .second, .val (.long b0), .second, .val (.long c0), .second, .val (.long d0), .second, .val (.int fl), .val (.long vb), .second, .val (.long vc), .second, .val (.long vd), .second, .val (.int k), .val (.ref a), .val (.int n1), .unset, .unset] [])) _
    refine XS.iload X0.here hx rfl (hb hby at_119) rfl ?_
    show Steps p.tables e below (T0.setTop (mkF m 121 #[.val (.long va), .second, .val (.long b0), .second, .val (.long c0), .second, .val (.long d0), .second, .val (.int fl), .val (.long vb), .second, .val (.long vc), .second, .val (.long vd), .second, .val (.int k), .val (.ref a), .val (.int n1), .unset, .unset] [(.int k)])) _
    refine XS.ifNo X0.here hx rfl (hb hby at_121) rfl ((if0 _ _).trans (tlt hc121_1).2.2.2) ?_
    show Steps p.tables e below (T0.setTop (mkF m 124 #[.val (.long va), .second, .val (.long b0), .second, .val (.long c0), .second, .val (.long d0), .second, .val (.int fl), .val (.long vb), .second, .val (.long vc), .second, .val (.long vd), .second, .val (.int k), .val (.ref a), .val (.int n1), .unset, .unset] [])) _
    refine XS.iinc X0.here hx rfl (hb hby at_124) rfl (l' := #[.val (.long va), .second, .val (.long b0), .second, .val (.long c0), .second, .val (.long d0), .second, .val (.int fl), .val (.long vb), .second, .val (.long vc), .second, .val (.long vd), .second, .val (.int k), .val (.ref a), .val (.int (n1 + (1 : Int32))), .unset, .unset]) rfl ?_
    exact st' target kt
  · obtain ⟨T', X', e', st'⟩ := own_n_b127 va b0 c0 d0 fl vb vc vd k a n1 X0 hx hZ hw hby hml hown e0  F (hF.trans (by rw [own_n_f119, if_neg hc121_1]))
    refine ⟨T', X', e', fun target kt => ?_⟩
    show Steps p.tables e below (T0.setTop (mkF m 119 #[.val (.long va), .second, .val (.long b0), .second, .val (.long c0), .second, .val (.long d0), .second, .val (.int fl), .val (.long vb), .second, .val (.long vc), .second, .val (.long vd), .second, .val (.int k), .val (.ref a), .val (.int n1), .unset, .unset] [])) _
    refine XS.iload X0.here hx rfl (hb hby at_119) rfl ?_
    show Steps p.tables e below (T0.setTop (mkF m 121 #[.val (.long va), .second, .val (.long b0), .second, .val (.long c0), .second, .val (.long d0), .second, .val (.int fl), .val (.long vb), .second, .val (.long vc), .second, .val (.long vd), .second, .val (.int k), .val (.ref a), .val (.int n1), .unset, .unset] [(.int k)])) _
    refine XS.ifYes X0.here hx rfl (pc0 := 121) (pc' := 127) rfl (hb hby at_121) rfl ((if0 _ _).trans (flt hc121_1).2.2.2) (by decide) (by decide) ?_
    exact st' target kt
theorem own_n_len (va : Int64) (b0 : Int64) (c0 : Int64) (d0 : Int64) (fl : Int32) (vb : Int64) (vc : Int64) (vd : Int64) (k : Int32) (a : Addr) : own_n_f119 va b0 c0 d0 fl vb vc vd k a 0 = (own_D4 k va vb vc vd).length.toInt32 := by
  have i1 : (1 : Int32) < k → (0 : Int32) < k := fun h => by rw [Int32.lt_iff_toInt_lt] at h ⊢; simp only [Int32.reduceToInt] at h ⊢; omega
  have i2 : (2 : Int32) < k → (1 : Int32) < k := fun h => by rw [Int32.lt_iff_toInt_lt] at h ⊢; simp only [Int32.reduceToInt] at h ⊢; omega
  have i3 : (3 : Int32) < k → (2 : Int32) < k := fun h => by rw [Int32.lt_iff_toInt_lt] at h ⊢; simp only [Int32.reduceToInt] at h ⊢; omega
  simp only [own_n_f119, own_n_f127, own_n_f143, own_n_f167, own_D4, own_D3, own_D2, own_D1]
  by_cases h0 : (0 : Int32) < k
  · by_cases h1 : (1 : Int32) < k
    · by_cases h2 : (2 : Int32) < k
      · by_cases h3 : (3 : Int32) < k
        · simp only [h0, h1, h2, h3, if_true, own_add_length, own_add_mem, List.not_mem_nil, false_or, if_false, List.length_nil]
          by_cases p1 : vb = va <;> by_cases p2 : vc = va <;> by_cases p3 : vc = vb <;> by_cases p4 : vd = va <;> by_cases p5 : vd = vb <;> by_cases p6 : vd = vc <;> first | (simp only [if_pos p1, if_neg p1, if_pos p2, if_neg p2, if_pos p3, if_neg p3, if_pos p4, if_neg p4, if_pos p5, if_neg p5, if_pos p6, if_neg p6, p1, p2, p3, p4, p5, p6, true_or, or_true, or_self, if_true, if_false]; rfl) | (exfalso; simp_all; done) | (simp_all; done) | (simp_all; rfl)
        · simp only [h0, h1, h2, h3, if_true, own_add_length, own_add_mem, List.not_mem_nil, false_or, if_false, List.length_nil]
          by_cases p1 : vb = va <;> by_cases p2 : vc = va <;> by_cases p3 : vc = vb <;> first | (simp_all; done) | (simp_all; rfl)
      · have h3 : ¬ (3 : Int32) < k := fun q => h2 (i3 q)
        simp only [h0, h1, h2, h3, if_true, own_add_length, own_add_mem, List.not_mem_nil, false_or, if_false, List.length_nil]
        by_cases p1 : vb = va <;> first | (simp_all; done) | (simp_all; rfl)
    · have h2 : ¬ (2 : Int32) < k := fun q => h1 (i2 q)
      have h3 : ¬ (3 : Int32) < k := fun q => h2 (i3 q)
      simp only [h0, h1, h2, h3, if_true, own_add_length, own_add_mem, List.not_mem_nil, false_or, if_false, List.length_nil]
      rfl
  · have h1 : ¬ (1 : Int32) < k := fun q => h0 (i1 q)
    have h2 : ¬ (2 : Int32) < k := fun q => h1 (i2 q)
    have h3 : ¬ (3 : Int32) < k := fun q => h2 (i3 q)
    simp only [h0, h1, h2, h3, if_true, own_add_length, own_add_mem, List.not_mem_nil, false_or, if_false, List.length_nil]
    rfl
set_option maxRecDepth 65536 in
set_option maxHeartbeats 40000000 in
theorem own_ad0 {p : Program} {l : Launch} {e : Env} {s : State} {m : MethodId} {args : Array Value} {below : List Frame} {meth : Method} {c : Code} {T0 : State} {locs : List Loc} {Z : State} {a0 : Array Value} {h0 : Heap} (va : Int64) (b0 : Int64) (c0 : Int64) (d0 : Int64) (fl : Int32) (vb : Int64) (vc : Int64) (vd : Int64) (k : Int32) (a : Addr) (t : Addr) (Dl vs : List Int64) (cnt : Nat) (hz : Int32)
    (X0 : Stand p l e room_1 s m args below meth c T0 locs (0 + 1 + 4) (0 + 5 + 39)) (hx : p.tables.exec = Jvm.exec) (hZ : Z.Warmed39 s.vm) (hw : ∀ d ∈ tables_1, d.before a0 Z = true) (hby : c.code = code) (hml : c.maxLocals = 20) (hown : s.vm.findClass "com/example/intact_keys/intactkeys/check/KeySetPackedValuesPinLaw" = some m.cls) (e0 : T0.heap = h0) (n0 : Nat) (Z0 : n0 ≤ h0.size) (N : Fr n0 locs) (A : own_K Z h0 a t vs cnt hz) (rr : own_R own_hs Dl vs cnt hz) (hD : Dl.length ≤ 11) (ga : n0 ≤ a) (gt : n0 ≤ t) :
    ∃ (T' : State) (h' : Heap) (L' : List Loc) (vs' : List Int64) (cnt' : Nat) (hz' : Int32), Stand p l e room_1 s m args below meth c T' L' (0 + 1 + 4) (0 + 5 + 39) ∧ T'.heap = h' ∧ Fr n0 L' ∧ n0 ≤ h'.size ∧ own_K Z h' a t vs' cnt' hz' ∧ own_R own_hs (if (0 : Int32) < k then own_add Dl va else Dl) vs' cnt' hz' ∧
      ∀ target, Steps p.tables e below (T'.setTop (mkF m 74 #[.val (.long va), .second, .val (.long b0), .second, .val (.long c0), .second, .val (.long d0), .second, .val (.int fl), .val (.long vb), .second, .val (.long vc), .second, .val (.long vd), .second, .val (.int k), .val (.ref a), .unset, .unset, .unset] [])) target → Steps p.tables e below (T0.setTop (mkF m 62 #[.val (.long va), .second, .val (.long b0), .second, .val (.long c0), .second, .val (.long d0), .second, .val (.int fl), .val (.long vb), .second, .val (.long vc), .second, .val (.long vd), .second, .val (.int k), .val (.ref a), .unset, .unset, .unset] [])) target := by
  by_cases h : (0 : Int32) < k
  ·
    obtain ⟨cq1, kq1, q1a, q1b, q1c⟩ := isOf hZ e0 A.1
    obtain ⟨_, _, ⟨T1, L1, k1, n1⟩, -, X1, ⟨Lc1, hQ1, l1, y1, z1⟩, st1⟩ := X0.virtualBack hx (y := (⟨"com/example/intact_keys/intactkeys/check/KeySet", "addPacked", "(J)Z"⟩ : MethodName)) (z := (⟨"com/example/intact_keys/intactkeys/check/KeySet", "addPacked", "(J)Z"⟩ : MethodName)) hown (mvT hZ (hw _ (List.mem_of_getElem? (i := 49) rfl))) (mvT hZ (hw _ (List.mem_of_getElem? (i := 50) rfl))) (notFace_of_selects (args := #[]) (mvT hZ (hw _ (List.mem_of_getElem? (i := 52) rfl)))) (mvT hZ (hw _ (List.mem_of_getElem? (i := 52) rfl))) (mvT hZ (hw _ (List.mem_of_getElem? (i := 51) rfl))) (by decide) (backOf (W := 0) (rm6 l Z a0 hw [] a t va Dl vs cnt hz h0 n0 Z0 A rr hD ga gt) hZ (hw _ (List.mem_of_getElem? (i := 53) rfl)) (hw _ (List.mem_of_getElem? (i := 2) rfl)) (by decide) (by decide)) q1a q1c (g := (mkF m 70 #[.val (.long va), .second, .val (.long b0), .second, .val (.long c0), .second, .val (.long d0), .second, .val (.int fl), .val (.long vb), .second, .val (.long vc), .second, .val (.long vd), .second, .val (.int k), .val (.ref a), .unset, .unset, .unset] [(.long va), (.ref a)])) rfl (by rw [hml]; rfl) (Steps.refl _) (argsL := [(.long va)]) (rest := []) (lenOf (show parseMethodDescriptor "(J)Z" = some ⟨[.long], (some .boolean)⟩ from by decide +kernel) rfl) rfl (by show 2 * 0 + _ ≤ _; exact Nat.le_of_eq rfl) (hb hby at_70) (fun _ _ => ⟨rfl, e0, (by decide : 0 + 1 + 4 + 0 ≤ _), (by decide : 0 + 5 + 39 + 0 ≤ _)⟩)
    dsimp only [Pt.U, Pt.locs, Pt.cells, Pt.slots] at X1 l1 y1 z1 st1 hQ1
    subst l1 y1 z1
    obtain ⟨r, vs', cnt', hz', rfl, N1q, A1, R1, K1⟩ := hQ1
    have N1 := Fr.app N N1q
    refine ⟨T1, _, _, vs', cnt', hz', X1, rfl, N1, Nat.le_trans Z0 K1.1, A1, by rw [if_pos h]; exact R1, fun target kt => ?_⟩
    show Steps p.tables e below (T0.setTop (mkF m 62 #[.val (.long va), .second, .val (.long b0), .second, .val (.long c0), .second, .val (.long d0), .second, .val (.int fl), .val (.long vb), .second, .val (.long vc), .second, .val (.long vd), .second, .val (.int k), .val (.ref a), .unset, .unset, .unset] [])) _
    refine XS.iload X0.here hx rfl (hb hby at_62) rfl ?_
    show Steps p.tables e below (T0.setTop (mkF m 64 #[.val (.long va), .second, .val (.long b0), .second, .val (.long c0), .second, .val (.long d0), .second, .val (.int fl), .val (.long vb), .second, .val (.long vc), .second, .val (.long vd), .second, .val (.int k), .val (.ref a), .unset, .unset, .unset] [(.int k)])) _
    refine XS.ifNo X0.here hx rfl (hb hby at_64) rfl ((if0 _ _).trans (tlt h).2.2.2) ?_
    show Steps p.tables e below (T0.setTop (mkF m 67 #[.val (.long va), .second, .val (.long b0), .second, .val (.long c0), .second, .val (.long d0), .second, .val (.int fl), .val (.long vb), .second, .val (.long vc), .second, .val (.long vd), .second, .val (.int k), .val (.ref a), .unset, .unset, .unset] [])) _
    refine XS.aload X0.here hx rfl (hb hby at_67) rfl rfl ?_
    show Steps p.tables e below (T0.setTop (mkF m 69 #[.val (.long va), .second, .val (.long b0), .second, .val (.long c0), .second, .val (.long d0), .second, .val (.int fl), .val (.long vb), .second, .val (.long vc), .second, .val (.long vd), .second, .val (.int k), .val (.ref a), .unset, .unset, .unset] [(.ref a)])) _
    refine XS.lloadN X0.here hx rfl (hb hby at_69) rfl ?_
    show Steps p.tables e below (T0.setTop (mkF m 70 #[.val (.long va), .second, .val (.long b0), .second, .val (.long c0), .second, .val (.long d0), .second, .val (.int fl), .val (.long vb), .second, .val (.long vc), .second, .val (.long vd), .second, .val (.int k), .val (.ref a), .unset, .unset, .unset] [(.long va), (.ref a)])) _
    refine st1.trans ?_
    show Steps p.tables e below (T1.setTop (mkF m 73 #[.val (.long va), .second, .val (.long b0), .second, .val (.long c0), .second, .val (.long d0), .second, .val (.int fl), .val (.long vb), .second, .val (.long vc), .second, .val (.long vd), .second, .val (.int k), .val (.ref a), .unset, .unset, .unset] [(.int r)])) _
    refine XS.pop X1.here hx rfl (hb hby at_73) rfl rfl ?_
    exact kt
  · refine ⟨T0, h0, locs, vs, cnt, hz, X0, e0, N, Z0, A, by rw [if_neg h]; exact rr, fun target kt => ?_⟩
    show Steps p.tables e below (T0.setTop (mkF m 62 #[.val (.long va), .second, .val (.long b0), .second, .val (.long c0), .second, .val (.long d0), .second, .val (.int fl), .val (.long vb), .second, .val (.long vc), .second, .val (.long vd), .second, .val (.int k), .val (.ref a), .unset, .unset, .unset] [])) _
    refine XS.iload X0.here hx rfl (hb hby at_62) rfl ?_
    show Steps p.tables e below (T0.setTop (mkF m 64 #[.val (.long va), .second, .val (.long b0), .second, .val (.long c0), .second, .val (.long d0), .second, .val (.int fl), .val (.long vb), .second, .val (.long vc), .second, .val (.long vd), .second, .val (.int k), .val (.ref a), .unset, .unset, .unset] [(.int k)])) _
    refine XS.ifYes X0.here hx rfl (pc0 := 64) (pc' := 74) rfl (hb hby at_64) rfl ((if0 _ _).trans (flt h).2.2.2) (by decide) (by decide) ?_
    exact kt
set_option maxRecDepth 65536 in
set_option maxHeartbeats 40000000 in
theorem own_ad1 {p : Program} {l : Launch} {e : Env} {s : State} {m : MethodId} {args : Array Value} {below : List Frame} {meth : Method} {c : Code} {T0 : State} {locs : List Loc} {Z : State} {a0 : Array Value} {h0 : Heap} (va : Int64) (b0 : Int64) (c0 : Int64) (d0 : Int64) (fl : Int32) (vb : Int64) (vc : Int64) (vd : Int64) (k : Int32) (a : Addr) (t : Addr) (Dl vs : List Int64) (cnt : Nat) (hz : Int32)
    (X0 : Stand p l e room_1 s m args below meth c T0 locs (0 + 1 + 4) (0 + 5 + 39)) (hx : p.tables.exec = Jvm.exec) (hZ : Z.Warmed39 s.vm) (hw : ∀ d ∈ tables_1, d.before a0 Z = true) (hby : c.code = code) (hml : c.maxLocals = 20) (hown : s.vm.findClass "com/example/intact_keys/intactkeys/check/KeySetPackedValuesPinLaw" = some m.cls) (e0 : T0.heap = h0) (n0 : Nat) (Z0 : n0 ≤ h0.size) (N : Fr n0 locs) (A : own_K Z h0 a t vs cnt hz) (rr : own_R own_hs Dl vs cnt hz) (hD : Dl.length ≤ 11) (ga : n0 ≤ a) (gt : n0 ≤ t) :
    ∃ (T' : State) (h' : Heap) (L' : List Loc) (vs' : List Int64) (cnt' : Nat) (hz' : Int32), Stand p l e room_1 s m args below meth c T' L' (0 + 1 + 4) (0 + 5 + 39) ∧ T'.heap = h' ∧ Fr n0 L' ∧ n0 ≤ h'.size ∧ own_K Z h' a t vs' cnt' hz' ∧ own_R own_hs (if (1 : Int32) < k then own_add Dl vb else Dl) vs' cnt' hz' ∧
      ∀ target, Steps p.tables e below (T'.setTop (mkF m 88 #[.val (.long va), .second, .val (.long b0), .second, .val (.long c0), .second, .val (.long d0), .second, .val (.int fl), .val (.long vb), .second, .val (.long vc), .second, .val (.long vd), .second, .val (.int k), .val (.ref a), .unset, .unset, .unset] [])) target → Steps p.tables e below (T0.setTop (mkF m 74 #[.val (.long va), .second, .val (.long b0), .second, .val (.long c0), .second, .val (.long d0), .second, .val (.int fl), .val (.long vb), .second, .val (.long vc), .second, .val (.long vd), .second, .val (.int k), .val (.ref a), .unset, .unset, .unset] [])) target := by
  by_cases h : (1 : Int32) < k
  ·
    obtain ⟨cq1, kq1, q1a, q1b, q1c⟩ := isOf hZ e0 A.1
    obtain ⟨_, _, ⟨T1, L1, k1, n1⟩, -, X1, ⟨Lc1, hQ1, l1, y1, z1⟩, st1⟩ := X0.virtualBack hx (y := (⟨"com/example/intact_keys/intactkeys/check/KeySet", "addPacked", "(J)Z"⟩ : MethodName)) (z := (⟨"com/example/intact_keys/intactkeys/check/KeySet", "addPacked", "(J)Z"⟩ : MethodName)) hown (mvT hZ (hw _ (List.mem_of_getElem? (i := 49) rfl))) (mvT hZ (hw _ (List.mem_of_getElem? (i := 50) rfl))) (notFace_of_selects (args := #[]) (mvT hZ (hw _ (List.mem_of_getElem? (i := 52) rfl)))) (mvT hZ (hw _ (List.mem_of_getElem? (i := 52) rfl))) (mvT hZ (hw _ (List.mem_of_getElem? (i := 51) rfl))) (by decide) (backOf (W := 0) (rm6 l Z a0 hw [] a t vb Dl vs cnt hz h0 n0 Z0 A rr hD ga gt) hZ (hw _ (List.mem_of_getElem? (i := 53) rfl)) (hw _ (List.mem_of_getElem? (i := 2) rfl)) (by decide) (by decide)) q1a q1c (g := (mkF m 84 #[.val (.long va), .second, .val (.long b0), .second, .val (.long c0), .second, .val (.long d0), .second, .val (.int fl), .val (.long vb), .second, .val (.long vc), .second, .val (.long vd), .second, .val (.int k), .val (.ref a), .unset, .unset, .unset] [(.long vb), (.ref a)])) rfl (by rw [hml]; rfl) (Steps.refl _) (argsL := [(.long vb)]) (rest := []) (lenOf (show parseMethodDescriptor "(J)Z" = some ⟨[.long], (some .boolean)⟩ from by decide +kernel) rfl) rfl (by show 2 * 0 + _ ≤ _; exact Nat.le_of_eq rfl) (hb hby at_84) (fun _ _ => ⟨rfl, e0, (by decide : 0 + 1 + 4 + 0 ≤ _), (by decide : 0 + 5 + 39 + 0 ≤ _)⟩)
    dsimp only [Pt.U, Pt.locs, Pt.cells, Pt.slots] at X1 l1 y1 z1 st1 hQ1
    subst l1 y1 z1
    obtain ⟨r, vs', cnt', hz', rfl, N1q, A1, R1, K1⟩ := hQ1
    have N1 := Fr.app N N1q
    refine ⟨T1, _, _, vs', cnt', hz', X1, rfl, N1, Nat.le_trans Z0 K1.1, A1, by rw [if_pos h]; exact R1, fun target kt => ?_⟩
    show Steps p.tables e below (T0.setTop (mkF m 74 #[.val (.long va), .second, .val (.long b0), .second, .val (.long c0), .second, .val (.long d0), .second, .val (.int fl), .val (.long vb), .second, .val (.long vc), .second, .val (.long vd), .second, .val (.int k), .val (.ref a), .unset, .unset, .unset] [])) _
    refine XS.iload X0.here hx rfl (hb hby at_74) rfl ?_
    show Steps p.tables e below (T0.setTop (mkF m 76 #[.val (.long va), .second, .val (.long b0), .second, .val (.long c0), .second, .val (.long d0), .second, .val (.int fl), .val (.long vb), .second, .val (.long vc), .second, .val (.long vd), .second, .val (.int k), .val (.ref a), .unset, .unset, .unset] [(.int k)])) _
    refine XS.iconst X0.here hx rfl (hb hby at_76) ?_
    show Steps p.tables e below (T0.setTop (mkF m 77 #[.val (.long va), .second, .val (.long b0), .second, .val (.long c0), .second, .val (.long d0), .second, .val (.int fl), .val (.long vb), .second, .val (.long vc), .second, .val (.long vd), .second, .val (.int k), .val (.ref a), .unset, .unset, .unset] [(.int (1 : Int32)), (.int k)])) _
    refine XS.icmpNo X0.here hx rfl (hb hby at_77) rfl (tlt h).2.2.2 ?_
    show Steps p.tables e below (T0.setTop (mkF m 80 #[.val (.long va), .second, .val (.long b0), .second, .val (.long c0), .second, .val (.long d0), .second, .val (.int fl), .val (.long vb), .second, .val (.long vc), .second, .val (.long vd), .second, .val (.int k), .val (.ref a), .unset, .unset, .unset] [])) _
    refine XS.aload X0.here hx rfl (hb hby at_80) rfl rfl ?_
    show Steps p.tables e below (T0.setTop (mkF m 82 #[.val (.long va), .second, .val (.long b0), .second, .val (.long c0), .second, .val (.long d0), .second, .val (.int fl), .val (.long vb), .second, .val (.long vc), .second, .val (.long vd), .second, .val (.int k), .val (.ref a), .unset, .unset, .unset] [(.ref a)])) _
    refine XS.lload X0.here hx rfl (hb hby at_82) rfl ?_
    show Steps p.tables e below (T0.setTop (mkF m 84 #[.val (.long va), .second, .val (.long b0), .second, .val (.long c0), .second, .val (.long d0), .second, .val (.int fl), .val (.long vb), .second, .val (.long vc), .second, .val (.long vd), .second, .val (.int k), .val (.ref a), .unset, .unset, .unset] [(.long vb), (.ref a)])) _
    refine st1.trans ?_
    show Steps p.tables e below (T1.setTop (mkF m 87 #[.val (.long va), .second, .val (.long b0), .second, .val (.long c0), .second, .val (.long d0), .second, .val (.int fl), .val (.long vb), .second, .val (.long vc), .second, .val (.long vd), .second, .val (.int k), .val (.ref a), .unset, .unset, .unset] [(.int r)])) _
    refine XS.pop X1.here hx rfl (hb hby at_87) rfl rfl ?_
    exact kt
  · refine ⟨T0, h0, locs, vs, cnt, hz, X0, e0, N, Z0, A, by rw [if_neg h]; exact rr, fun target kt => ?_⟩
    show Steps p.tables e below (T0.setTop (mkF m 74 #[.val (.long va), .second, .val (.long b0), .second, .val (.long c0), .second, .val (.long d0), .second, .val (.int fl), .val (.long vb), .second, .val (.long vc), .second, .val (.long vd), .second, .val (.int k), .val (.ref a), .unset, .unset, .unset] [])) _
    refine XS.iload X0.here hx rfl (hb hby at_74) rfl ?_
    show Steps p.tables e below (T0.setTop (mkF m 76 #[.val (.long va), .second, .val (.long b0), .second, .val (.long c0), .second, .val (.long d0), .second, .val (.int fl), .val (.long vb), .second, .val (.long vc), .second, .val (.long vd), .second, .val (.int k), .val (.ref a), .unset, .unset, .unset] [(.int k)])) _
    refine XS.iconst X0.here hx rfl (hb hby at_76) ?_
    show Steps p.tables e below (T0.setTop (mkF m 77 #[.val (.long va), .second, .val (.long b0), .second, .val (.long c0), .second, .val (.long d0), .second, .val (.int fl), .val (.long vb), .second, .val (.long vc), .second, .val (.long vd), .second, .val (.int k), .val (.ref a), .unset, .unset, .unset] [(.int (1 : Int32)), (.int k)])) _
    refine XS.icmpYes X0.here hx rfl (pc0 := 77) (pc' := 88) rfl (hb hby at_77) rfl (flt h).2.2.2 (by decide) (by decide) ?_
    exact kt
set_option maxRecDepth 65536 in
set_option maxHeartbeats 40000000 in
theorem own_ad2 {p : Program} {l : Launch} {e : Env} {s : State} {m : MethodId} {args : Array Value} {below : List Frame} {meth : Method} {c : Code} {T0 : State} {locs : List Loc} {Z : State} {a0 : Array Value} {h0 : Heap} (va : Int64) (b0 : Int64) (c0 : Int64) (d0 : Int64) (fl : Int32) (vb : Int64) (vc : Int64) (vd : Int64) (k : Int32) (a : Addr) (t : Addr) (Dl vs : List Int64) (cnt : Nat) (hz : Int32)
    (X0 : Stand p l e room_1 s m args below meth c T0 locs (0 + 1 + 4) (0 + 5 + 39)) (hx : p.tables.exec = Jvm.exec) (hZ : Z.Warmed39 s.vm) (hw : ∀ d ∈ tables_1, d.before a0 Z = true) (hby : c.code = code) (hml : c.maxLocals = 20) (hown : s.vm.findClass "com/example/intact_keys/intactkeys/check/KeySetPackedValuesPinLaw" = some m.cls) (e0 : T0.heap = h0) (n0 : Nat) (Z0 : n0 ≤ h0.size) (N : Fr n0 locs) (A : own_K Z h0 a t vs cnt hz) (rr : own_R own_hs Dl vs cnt hz) (hD : Dl.length ≤ 11) (ga : n0 ≤ a) (gt : n0 ≤ t) :
    ∃ (T' : State) (h' : Heap) (L' : List Loc) (vs' : List Int64) (cnt' : Nat) (hz' : Int32), Stand p l e room_1 s m args below meth c T' L' (0 + 1 + 4) (0 + 5 + 39) ∧ T'.heap = h' ∧ Fr n0 L' ∧ n0 ≤ h'.size ∧ own_K Z h' a t vs' cnt' hz' ∧ own_R own_hs (if (2 : Int32) < k then own_add Dl vc else Dl) vs' cnt' hz' ∧
      ∀ target, Steps p.tables e below (T'.setTop (mkF m 102 #[.val (.long va), .second, .val (.long b0), .second, .val (.long c0), .second, .val (.long d0), .second, .val (.int fl), .val (.long vb), .second, .val (.long vc), .second, .val (.long vd), .second, .val (.int k), .val (.ref a), .unset, .unset, .unset] [])) target → Steps p.tables e below (T0.setTop (mkF m 88 #[.val (.long va), .second, .val (.long b0), .second, .val (.long c0), .second, .val (.long d0), .second, .val (.int fl), .val (.long vb), .second, .val (.long vc), .second, .val (.long vd), .second, .val (.int k), .val (.ref a), .unset, .unset, .unset] [])) target := by
  by_cases h : (2 : Int32) < k
  ·
    obtain ⟨cq1, kq1, q1a, q1b, q1c⟩ := isOf hZ e0 A.1
    obtain ⟨_, _, ⟨T1, L1, k1, n1⟩, -, X1, ⟨Lc1, hQ1, l1, y1, z1⟩, st1⟩ := X0.virtualBack hx (y := (⟨"com/example/intact_keys/intactkeys/check/KeySet", "addPacked", "(J)Z"⟩ : MethodName)) (z := (⟨"com/example/intact_keys/intactkeys/check/KeySet", "addPacked", "(J)Z"⟩ : MethodName)) hown (mvT hZ (hw _ (List.mem_of_getElem? (i := 49) rfl))) (mvT hZ (hw _ (List.mem_of_getElem? (i := 50) rfl))) (notFace_of_selects (args := #[]) (mvT hZ (hw _ (List.mem_of_getElem? (i := 52) rfl)))) (mvT hZ (hw _ (List.mem_of_getElem? (i := 52) rfl))) (mvT hZ (hw _ (List.mem_of_getElem? (i := 51) rfl))) (by decide) (backOf (W := 0) (rm6 l Z a0 hw [] a t vc Dl vs cnt hz h0 n0 Z0 A rr hD ga gt) hZ (hw _ (List.mem_of_getElem? (i := 53) rfl)) (hw _ (List.mem_of_getElem? (i := 2) rfl)) (by decide) (by decide)) q1a q1c (g := (mkF m 98 #[.val (.long va), .second, .val (.long b0), .second, .val (.long c0), .second, .val (.long d0), .second, .val (.int fl), .val (.long vb), .second, .val (.long vc), .second, .val (.long vd), .second, .val (.int k), .val (.ref a), .unset, .unset, .unset] [(.long vc), (.ref a)])) rfl (by rw [hml]; rfl) (Steps.refl _) (argsL := [(.long vc)]) (rest := []) (lenOf (show parseMethodDescriptor "(J)Z" = some ⟨[.long], (some .boolean)⟩ from by decide +kernel) rfl) rfl (by show 2 * 0 + _ ≤ _; exact Nat.le_of_eq rfl) (hb hby at_98) (fun _ _ => ⟨rfl, e0, (by decide : 0 + 1 + 4 + 0 ≤ _), (by decide : 0 + 5 + 39 + 0 ≤ _)⟩)
    dsimp only [Pt.U, Pt.locs, Pt.cells, Pt.slots] at X1 l1 y1 z1 st1 hQ1
    subst l1 y1 z1
    obtain ⟨r, vs', cnt', hz', rfl, N1q, A1, R1, K1⟩ := hQ1
    have N1 := Fr.app N N1q
    refine ⟨T1, _, _, vs', cnt', hz', X1, rfl, N1, Nat.le_trans Z0 K1.1, A1, by rw [if_pos h]; exact R1, fun target kt => ?_⟩
    show Steps p.tables e below (T0.setTop (mkF m 88 #[.val (.long va), .second, .val (.long b0), .second, .val (.long c0), .second, .val (.long d0), .second, .val (.int fl), .val (.long vb), .second, .val (.long vc), .second, .val (.long vd), .second, .val (.int k), .val (.ref a), .unset, .unset, .unset] [])) _
    refine XS.iload X0.here hx rfl (hb hby at_88) rfl ?_
    show Steps p.tables e below (T0.setTop (mkF m 90 #[.val (.long va), .second, .val (.long b0), .second, .val (.long c0), .second, .val (.long d0), .second, .val (.int fl), .val (.long vb), .second, .val (.long vc), .second, .val (.long vd), .second, .val (.int k), .val (.ref a), .unset, .unset, .unset] [(.int k)])) _
    refine XS.iconst X0.here hx rfl (hb hby at_90) ?_
    show Steps p.tables e below (T0.setTop (mkF m 91 #[.val (.long va), .second, .val (.long b0), .second, .val (.long c0), .second, .val (.long d0), .second, .val (.int fl), .val (.long vb), .second, .val (.long vc), .second, .val (.long vd), .second, .val (.int k), .val (.ref a), .unset, .unset, .unset] [(.int (2 : Int32)), (.int k)])) _
    refine XS.icmpNo X0.here hx rfl (hb hby at_91) rfl (tlt h).2.2.2 ?_
    show Steps p.tables e below (T0.setTop (mkF m 94 #[.val (.long va), .second, .val (.long b0), .second, .val (.long c0), .second, .val (.long d0), .second, .val (.int fl), .val (.long vb), .second, .val (.long vc), .second, .val (.long vd), .second, .val (.int k), .val (.ref a), .unset, .unset, .unset] [])) _
    refine XS.aload X0.here hx rfl (hb hby at_94) rfl rfl ?_
    show Steps p.tables e below (T0.setTop (mkF m 96 #[.val (.long va), .second, .val (.long b0), .second, .val (.long c0), .second, .val (.long d0), .second, .val (.int fl), .val (.long vb), .second, .val (.long vc), .second, .val (.long vd), .second, .val (.int k), .val (.ref a), .unset, .unset, .unset] [(.ref a)])) _
    refine XS.lload X0.here hx rfl (hb hby at_96) rfl ?_
    show Steps p.tables e below (T0.setTop (mkF m 98 #[.val (.long va), .second, .val (.long b0), .second, .val (.long c0), .second, .val (.long d0), .second, .val (.int fl), .val (.long vb), .second, .val (.long vc), .second, .val (.long vd), .second, .val (.int k), .val (.ref a), .unset, .unset, .unset] [(.long vc), (.ref a)])) _
    refine st1.trans ?_
    show Steps p.tables e below (T1.setTop (mkF m 101 #[.val (.long va), .second, .val (.long b0), .second, .val (.long c0), .second, .val (.long d0), .second, .val (.int fl), .val (.long vb), .second, .val (.long vc), .second, .val (.long vd), .second, .val (.int k), .val (.ref a), .unset, .unset, .unset] [(.int r)])) _
    refine XS.pop X1.here hx rfl (hb hby at_101) rfl rfl ?_
    exact kt
  · refine ⟨T0, h0, locs, vs, cnt, hz, X0, e0, N, Z0, A, by rw [if_neg h]; exact rr, fun target kt => ?_⟩
    show Steps p.tables e below (T0.setTop (mkF m 88 #[.val (.long va), .second, .val (.long b0), .second, .val (.long c0), .second, .val (.long d0), .second, .val (.int fl), .val (.long vb), .second, .val (.long vc), .second, .val (.long vd), .second, .val (.int k), .val (.ref a), .unset, .unset, .unset] [])) _
    refine XS.iload X0.here hx rfl (hb hby at_88) rfl ?_
    show Steps p.tables e below (T0.setTop (mkF m 90 #[.val (.long va), .second, .val (.long b0), .second, .val (.long c0), .second, .val (.long d0), .second, .val (.int fl), .val (.long vb), .second, .val (.long vc), .second, .val (.long vd), .second, .val (.int k), .val (.ref a), .unset, .unset, .unset] [(.int k)])) _
    refine XS.iconst X0.here hx rfl (hb hby at_90) ?_
    show Steps p.tables e below (T0.setTop (mkF m 91 #[.val (.long va), .second, .val (.long b0), .second, .val (.long c0), .second, .val (.long d0), .second, .val (.int fl), .val (.long vb), .second, .val (.long vc), .second, .val (.long vd), .second, .val (.int k), .val (.ref a), .unset, .unset, .unset] [(.int (2 : Int32)), (.int k)])) _
    refine XS.icmpYes X0.here hx rfl (pc0 := 91) (pc' := 102) rfl (hb hby at_91) rfl (flt h).2.2.2 (by decide) (by decide) ?_
    exact kt
set_option maxRecDepth 65536 in
set_option maxHeartbeats 40000000 in
theorem own_ad3 {p : Program} {l : Launch} {e : Env} {s : State} {m : MethodId} {args : Array Value} {below : List Frame} {meth : Method} {c : Code} {T0 : State} {locs : List Loc} {Z : State} {a0 : Array Value} {h0 : Heap} (va : Int64) (b0 : Int64) (c0 : Int64) (d0 : Int64) (fl : Int32) (vb : Int64) (vc : Int64) (vd : Int64) (k : Int32) (a : Addr) (t : Addr) (Dl vs : List Int64) (cnt : Nat) (hz : Int32)
    (X0 : Stand p l e room_1 s m args below meth c T0 locs (0 + 1 + 4) (0 + 5 + 39)) (hx : p.tables.exec = Jvm.exec) (hZ : Z.Warmed39 s.vm) (hw : ∀ d ∈ tables_1, d.before a0 Z = true) (hby : c.code = code) (hml : c.maxLocals = 20) (hown : s.vm.findClass "com/example/intact_keys/intactkeys/check/KeySetPackedValuesPinLaw" = some m.cls) (e0 : T0.heap = h0) (n0 : Nat) (Z0 : n0 ≤ h0.size) (N : Fr n0 locs) (A : own_K Z h0 a t vs cnt hz) (rr : own_R own_hs Dl vs cnt hz) (hD : Dl.length ≤ 11) (ga : n0 ≤ a) (gt : n0 ≤ t) :
    ∃ (T' : State) (h' : Heap) (L' : List Loc) (vs' : List Int64) (cnt' : Nat) (hz' : Int32), Stand p l e room_1 s m args below meth c T' L' (0 + 1 + 4) (0 + 5 + 39) ∧ T'.heap = h' ∧ Fr n0 L' ∧ n0 ≤ h'.size ∧ own_K Z h' a t vs' cnt' hz' ∧ own_R own_hs (if (3 : Int32) < k then own_add Dl vd else Dl) vs' cnt' hz' ∧
      ∀ target, Steps p.tables e below (T'.setTop (mkF m 116 #[.val (.long va), .second, .val (.long b0), .second, .val (.long c0), .second, .val (.long d0), .second, .val (.int fl), .val (.long vb), .second, .val (.long vc), .second, .val (.long vd), .second, .val (.int k), .val (.ref a), .unset, .unset, .unset] [])) target → Steps p.tables e below (T0.setTop (mkF m 102 #[.val (.long va), .second, .val (.long b0), .second, .val (.long c0), .second, .val (.long d0), .second, .val (.int fl), .val (.long vb), .second, .val (.long vc), .second, .val (.long vd), .second, .val (.int k), .val (.ref a), .unset, .unset, .unset] [])) target := by
  by_cases h : (3 : Int32) < k
  ·
    obtain ⟨cq1, kq1, q1a, q1b, q1c⟩ := isOf hZ e0 A.1
    obtain ⟨_, _, ⟨T1, L1, k1, n1⟩, -, X1, ⟨Lc1, hQ1, l1, y1, z1⟩, st1⟩ := X0.virtualBack hx (y := (⟨"com/example/intact_keys/intactkeys/check/KeySet", "addPacked", "(J)Z"⟩ : MethodName)) (z := (⟨"com/example/intact_keys/intactkeys/check/KeySet", "addPacked", "(J)Z"⟩ : MethodName)) hown (mvT hZ (hw _ (List.mem_of_getElem? (i := 49) rfl))) (mvT hZ (hw _ (List.mem_of_getElem? (i := 50) rfl))) (notFace_of_selects (args := #[]) (mvT hZ (hw _ (List.mem_of_getElem? (i := 52) rfl)))) (mvT hZ (hw _ (List.mem_of_getElem? (i := 52) rfl))) (mvT hZ (hw _ (List.mem_of_getElem? (i := 51) rfl))) (by decide) (backOf (W := 0) (rm6 l Z a0 hw [] a t vd Dl vs cnt hz h0 n0 Z0 A rr hD ga gt) hZ (hw _ (List.mem_of_getElem? (i := 53) rfl)) (hw _ (List.mem_of_getElem? (i := 2) rfl)) (by decide) (by decide)) q1a q1c (g := (mkF m 112 #[.val (.long va), .second, .val (.long b0), .second, .val (.long c0), .second, .val (.long d0), .second, .val (.int fl), .val (.long vb), .second, .val (.long vc), .second, .val (.long vd), .second, .val (.int k), .val (.ref a), .unset, .unset, .unset] [(.long vd), (.ref a)])) rfl (by rw [hml]; rfl) (Steps.refl _) (argsL := [(.long vd)]) (rest := []) (lenOf (show parseMethodDescriptor "(J)Z" = some ⟨[.long], (some .boolean)⟩ from by decide +kernel) rfl) rfl (by show 2 * 0 + _ ≤ _; exact Nat.le_of_eq rfl) (hb hby at_112) (fun _ _ => ⟨rfl, e0, (by decide : 0 + 1 + 4 + 0 ≤ _), (by decide : 0 + 5 + 39 + 0 ≤ _)⟩)
    dsimp only [Pt.U, Pt.locs, Pt.cells, Pt.slots] at X1 l1 y1 z1 st1 hQ1
    subst l1 y1 z1
    obtain ⟨r, vs', cnt', hz', rfl, N1q, A1, R1, K1⟩ := hQ1
    have N1 := Fr.app N N1q
    refine ⟨T1, _, _, vs', cnt', hz', X1, rfl, N1, Nat.le_trans Z0 K1.1, A1, by rw [if_pos h]; exact R1, fun target kt => ?_⟩
    show Steps p.tables e below (T0.setTop (mkF m 102 #[.val (.long va), .second, .val (.long b0), .second, .val (.long c0), .second, .val (.long d0), .second, .val (.int fl), .val (.long vb), .second, .val (.long vc), .second, .val (.long vd), .second, .val (.int k), .val (.ref a), .unset, .unset, .unset] [])) _
    refine XS.iload X0.here hx rfl (hb hby at_102) rfl ?_
    show Steps p.tables e below (T0.setTop (mkF m 104 #[.val (.long va), .second, .val (.long b0), .second, .val (.long c0), .second, .val (.long d0), .second, .val (.int fl), .val (.long vb), .second, .val (.long vc), .second, .val (.long vd), .second, .val (.int k), .val (.ref a), .unset, .unset, .unset] [(.int k)])) _
    refine XS.iconst X0.here hx rfl (hb hby at_104) ?_
    show Steps p.tables e below (T0.setTop (mkF m 105 #[.val (.long va), .second, .val (.long b0), .second, .val (.long c0), .second, .val (.long d0), .second, .val (.int fl), .val (.long vb), .second, .val (.long vc), .second, .val (.long vd), .second, .val (.int k), .val (.ref a), .unset, .unset, .unset] [(.int (3 : Int32)), (.int k)])) _
    refine XS.icmpNo X0.here hx rfl (hb hby at_105) rfl (tlt h).2.2.2 ?_
    show Steps p.tables e below (T0.setTop (mkF m 108 #[.val (.long va), .second, .val (.long b0), .second, .val (.long c0), .second, .val (.long d0), .second, .val (.int fl), .val (.long vb), .second, .val (.long vc), .second, .val (.long vd), .second, .val (.int k), .val (.ref a), .unset, .unset, .unset] [])) _
    refine XS.aload X0.here hx rfl (hb hby at_108) rfl rfl ?_
    show Steps p.tables e below (T0.setTop (mkF m 110 #[.val (.long va), .second, .val (.long b0), .second, .val (.long c0), .second, .val (.long d0), .second, .val (.int fl), .val (.long vb), .second, .val (.long vc), .second, .val (.long vd), .second, .val (.int k), .val (.ref a), .unset, .unset, .unset] [(.ref a)])) _
    refine XS.lload X0.here hx rfl (hb hby at_110) rfl ?_
    show Steps p.tables e below (T0.setTop (mkF m 112 #[.val (.long va), .second, .val (.long b0), .second, .val (.long c0), .second, .val (.long d0), .second, .val (.int fl), .val (.long vb), .second, .val (.long vc), .second, .val (.long vd), .second, .val (.int k), .val (.ref a), .unset, .unset, .unset] [(.long vd), (.ref a)])) _
    refine st1.trans ?_
    show Steps p.tables e below (T1.setTop (mkF m 115 #[.val (.long va), .second, .val (.long b0), .second, .val (.long c0), .second, .val (.long d0), .second, .val (.int fl), .val (.long vb), .second, .val (.long vc), .second, .val (.long vd), .second, .val (.int k), .val (.ref a), .unset, .unset, .unset] [(.int r)])) _
    refine XS.pop X1.here hx rfl (hb hby at_115) rfl rfl ?_
    exact kt
  · refine ⟨T0, h0, locs, vs, cnt, hz, X0, e0, N, Z0, A, by rw [if_neg h]; exact rr, fun target kt => ?_⟩
    show Steps p.tables e below (T0.setTop (mkF m 102 #[.val (.long va), .second, .val (.long b0), .second, .val (.long c0), .second, .val (.long d0), .second, .val (.int fl), .val (.long vb), .second, .val (.long vc), .second, .val (.long vd), .second, .val (.int k), .val (.ref a), .unset, .unset, .unset] [])) _
    refine XS.iload X0.here hx rfl (hb hby at_102) rfl ?_
    show Steps p.tables e below (T0.setTop (mkF m 104 #[.val (.long va), .second, .val (.long b0), .second, .val (.long c0), .second, .val (.long d0), .second, .val (.int fl), .val (.long vb), .second, .val (.long vc), .second, .val (.long vd), .second, .val (.int k), .val (.ref a), .unset, .unset, .unset] [(.int k)])) _
    refine XS.iconst X0.here hx rfl (hb hby at_104) ?_
    show Steps p.tables e below (T0.setTop (mkF m 105 #[.val (.long va), .second, .val (.long b0), .second, .val (.long c0), .second, .val (.long d0), .second, .val (.int fl), .val (.long vb), .second, .val (.long vc), .second, .val (.long vd), .second, .val (.int k), .val (.ref a), .unset, .unset, .unset] [(.int (3 : Int32)), (.int k)])) _
    refine XS.icmpYes X0.here hx rfl (pc0 := 105) (pc' := 116) rfl (hb hby at_105) rfl (flt h).2.2.2 (by decide) (by decide) ?_
    exact kt
set_option maxRecDepth 65536 in
set_option maxHeartbeats 40000000 in
theorem own_ck0 {p : Program} {l : Launch} {e : Env} {s : State} {m : MethodId} {args : Array Value} {below : List Frame} {meth : Method} {c : Code} {T0 : State} {locs : List Loc} {Z : State} {a0 : Array Value} {h0 : Heap} (va : Int64) (b0 : Int64) (c0 : Int64) (d0 : Int64) (fl : Int32) (vb : Int64) (vc : Int64) (vd : Int64) (k : Int32) (a : Addr) (nn : Int32) (wv : Addr) (ws : List Int64)
    (X0 : Stand p l e room_1 s m args below meth c T0 locs (0 + 1 + 4 + 1) (0 + 5 + 39 + 16)) (hx : p.tables.exec = Jvm.exec) (hZ : Z.Warmed39 s.vm) (hw : ∀ d ∈ tables_1, d.before a0 Z = true) (hby : c.code = code) (hml : c.maxLocals = 20) (hown : s.vm.findClass "com/example/intact_keys/intactkeys/check/KeySetPackedValuesPinLaw" = some m.cls) (e0 : T0.heap = h0) (n0 : Nat) (Z0 : n0 ≤ h0.size) (N : Fr n0 locs) (A : own_J Z h0 wv ws) (hl : ws.length ≤ 4) (nd : ws.Nodup) (hm : (0 : Int32) < k → va ∈ ws) :
    ∃ (T' : State) (L' : List Loc), Stand p l e room_1 s m args below meth c T' L' (0 + 1 + 4 + 1) (0 + 5 + 39 + 16) ∧ T'.heap = h0 ∧ Fr n0 L' ∧
      ∀ target, Steps p.tables e below (T'.setTop (mkF m 246 #[.val (.long va), .second, .val (.long b0), .second, .val (.long c0), .second, .val (.long d0), .second, .val (.int fl), .val (.long vb), .second, .val (.long vc), .second, .val (.long vd), .second, .val (.int k), .val (.ref a), .val (.int nn), .val (.ref wv), .val (.int (1 : Int32))] [])) target → Steps p.tables e below (T0.setTop (mkF m 219 #[.val (.long va), .second, .val (.long b0), .second, .val (.long c0), .second, .val (.long d0), .second, .val (.int fl), .val (.long vb), .second, .val (.long vc), .second, .val (.long vd), .second, .val (.int k), .val (.ref a), .val (.int nn), .val (.ref wv), .val (.int (1 : Int32))] [])) target := by
  by_cases h : (0 : Int32) < k
  ·
    obtain ⟨_, _, ⟨T1, L1, k1, n1⟩, -, X1, ⟨Lc1, hQ1, l1, y1, z1⟩, st1⟩ := Jvm.LawKit.callS X0 hx (y := (⟨"com/example/intact_keys/intactkeys/check/KeySetPackedValuesPinLaw", "count", "([JJ)I"⟩ : MethodName)) hown (mvT hZ (hw _ (List.mem_of_getElem? (i := 66) rfl))) (mvT hZ (hw _ (List.mem_of_getElem? (i := 67) rfl))) (mvT hZ (hw _ (List.mem_of_getElem? (i := 68) rfl))) (mvT hZ (hw _ (List.mem_of_getElem? (i := 69) rfl))) (by decide) (backOf (W := 0) (rm10 l Z a0 hw [] wv va ws h0 n0 Z0 A hl nd (hm h)) hZ (hw _ (List.mem_of_getElem? (i := 69) rfl)) (hw _ (List.mem_of_getElem? (i := 68) rfl)) (by decide) (by decide)) (g := (mkF m 232 #[.val (.long va), .second, .val (.long b0), .second, .val (.long c0), .second, .val (.long d0), .second, .val (.int fl), .val (.long vb), .second, .val (.long vc), .second, .val (.long vd), .second, .val (.int k), .val (.ref a), .val (.int nn), .val (.ref wv), .val (.int (1 : Int32))] [(.long va), (.ref wv)])) rfl (by rw [hml]; rfl) (argsL := [(.ref wv), (.long va)]) (rest := []) (lenOf (show parseMethodDescriptor "([JJ)I" = some ⟨[(.array .long), .long], (some .int)⟩ from by decide +kernel) rfl) rfl (by show 2 * 0 + _ ≤ _; exact Nat.le_of_eq rfl) (hb hby at_232) (fun _ _ => ⟨rfl, e0, (by decide : 0 + 1 + 4 + 1 + 0 ≤ _), (by decide : 0 + 5 + 39 + 16 + 0 ≤ _)⟩)
    dsimp only [Pt.U, Pt.locs, Pt.cells, Pt.slots] at X1 l1 y1 z1 st1 hQ1
    subst l1 y1 z1
    obtain ⟨rfl, N1q, e1⟩ := hQ1
    have N1 := Fr.app N N1q
    refine ⟨T1, _, X1, e1, N1, fun target kt => ?_⟩
    show Steps p.tables e below (T0.setTop (mkF m 219 #[.val (.long va), .second, .val (.long b0), .second, .val (.long c0), .second, .val (.long d0), .second, .val (.int fl), .val (.long vb), .second, .val (.long vc), .second, .val (.long vd), .second, .val (.int k), .val (.ref a), .val (.int nn), .val (.ref wv), .val (.int (1 : Int32))] [])) _
    refine XS.iload X0.here hx rfl (hb hby at_219) rfl ?_
    show Steps p.tables e below (T0.setTop (mkF m 221 #[.val (.long va), .second, .val (.long b0), .second, .val (.long c0), .second, .val (.long d0), .second, .val (.int fl), .val (.long vb), .second, .val (.long vc), .second, .val (.long vd), .second, .val (.int k), .val (.ref a), .val (.int nn), .val (.ref wv), .val (.int (1 : Int32))] [(.int k)])) _
    refine XS.ifNo X0.here hx rfl (hb hby at_221) rfl ((if0 _ _).trans (tlt h).2.2.2) ?_
    show Steps p.tables e below (T0.setTop (mkF m 224 #[.val (.long va), .second, .val (.long b0), .second, .val (.long c0), .second, .val (.long d0), .second, .val (.int fl), .val (.long vb), .second, .val (.long vc), .second, .val (.long vd), .second, .val (.int k), .val (.ref a), .val (.int nn), .val (.ref wv), .val (.int (1 : Int32))] [])) _
    refine XS.iload X0.here hx rfl (hb hby at_224) rfl ?_
    show Steps p.tables e below (T0.setTop (mkF m 226 #[.val (.long va), .second, .val (.long b0), .second, .val (.long c0), .second, .val (.long d0), .second, .val (.int fl), .val (.long vb), .second, .val (.long vc), .second, .val (.long vd), .second, .val (.int k), .val (.ref a), .val (.int nn), .val (.ref wv), .val (.int (1 : Int32))] [(.int (1 : Int32))])) _
    refine XS.ifNo X0.here hx rfl (hb hby at_226) rfl ((if0 _ _).trans (feq (by decide : ¬ ((1 : Int32) = (0 : Int32)))).1) ?_
    show Steps p.tables e below (T0.setTop (mkF m 229 #[.val (.long va), .second, .val (.long b0), .second, .val (.long c0), .second, .val (.long d0), .second, .val (.int fl), .val (.long vb), .second, .val (.long vc), .second, .val (.long vd), .second, .val (.int k), .val (.ref a), .val (.int nn), .val (.ref wv), .val (.int (1 : Int32))] [])) _
    refine XS.aload X0.here hx rfl (hb hby at_229) rfl rfl ?_
    show Steps p.tables e below (T0.setTop (mkF m 231 #[.val (.long va), .second, .val (.long b0), .second, .val (.long c0), .second, .val (.long d0), .second, .val (.int fl), .val (.long vb), .second, .val (.long vc), .second, .val (.long vd), .second, .val (.int k), .val (.ref a), .val (.int nn), .val (.ref wv), .val (.int (1 : Int32))] [(.ref wv)])) _
    refine XS.lloadN X0.here hx rfl (hb hby at_231) rfl ?_
    show Steps p.tables e below (T0.setTop (mkF m 232 #[.val (.long va), .second, .val (.long b0), .second, .val (.long c0), .second, .val (.long d0), .second, .val (.int fl), .val (.long vb), .second, .val (.long vc), .second, .val (.long vd), .second, .val (.int k), .val (.ref a), .val (.int nn), .val (.ref wv), .val (.int (1 : Int32))] [(.long va), (.ref wv)])) _
    refine st1 _ ?_
    show Steps p.tables e below (T1.setTop (mkF m 235 #[.val (.long va), .second, .val (.long b0), .second, .val (.long c0), .second, .val (.long d0), .second, .val (.int fl), .val (.long vb), .second, .val (.long vc), .second, .val (.long vd), .second, .val (.int k), .val (.ref a), .val (.int nn), .val (.ref wv), .val (.int (1 : Int32))] [(.int (1 : Int32))])) _
    refine XS.iconst X1.here hx rfl (hb hby at_235) ?_
    show Steps p.tables e below (T1.setTop (mkF m 236 #[.val (.long va), .second, .val (.long b0), .second, .val (.long c0), .second, .val (.long d0), .second, .val (.int fl), .val (.long vb), .second, .val (.long vc), .second, .val (.long vd), .second, .val (.int k), .val (.ref a), .val (.int nn), .val (.ref wv), .val (.int (1 : Int32))] [(.int (1 : Int32)), (.int (1 : Int32))])) _
    refine XS.icmpNo X1.here hx rfl (hb hby at_236) rfl (teq (rfl : (1 : Int32) = (1 : Int32))).2 ?_
    show Steps p.tables e below (T1.setTop (mkF m 239 #[.val (.long va), .second, .val (.long b0), .second, .val (.long c0), .second, .val (.long d0), .second, .val (.int fl), .val (.long vb), .second, .val (.long vc), .second, .val (.long vd), .second, .val (.int k), .val (.ref a), .val (.int nn), .val (.ref wv), .val (.int (1 : Int32))] [])) _
    refine XS.iconst X1.here hx rfl (hb hby at_239) ?_
    show Steps p.tables e below (T1.setTop (mkF m 240 #[.val (.long va), .second, .val (.long b0), .second, .val (.long c0), .second, .val (.long d0), .second, .val (.int fl), .val (.long vb), .second, .val (.long vc), .second, .val (.long vd), .second, .val (.int k), .val (.ref a), .val (.int nn), .val (.ref wv), .val (.int (1 : Int32))] [(.int (1 : Int32))])) _
    refine XS.goto X1.here hx rfl (pc0 := 240) (pc' := 244) rfl (hb hby at_240) (by decide) (by decide) ?_
    show Steps p.tables e below (T1.setTop (mkF m 244 #[.val (.long va), .second, .val (.long b0), .second, .val (.long c0), .second, .val (.long d0), .second, .val (.int fl), .val (.long vb), .second, .val (.long vc), .second, .val (.long vd), .second, .val (.int k), .val (.ref a), .val (.int nn), .val (.ref wv), .val (.int (1 : Int32))] [(.int (1 : Int32))])) _
    refine XS.istore X1.here hx rfl (hb hby at_244) rfl (l' := #[.val (.long va), .second, .val (.long b0), .second, .val (.long c0), .second, .val (.long d0), .second, .val (.int fl), .val (.long vb), .second, .val (.long vc), .second, .val (.long vd), .second, .val (.int k), .val (.ref a), .val (.int nn), .val (.ref wv), .val (.int (1 : Int32))]) rfl ?_
    exact kt
  · refine ⟨T0, locs, X0, e0, N, fun target kt => ?_⟩
    show Steps p.tables e below (T0.setTop (mkF m 219 #[.val (.long va), .second, .val (.long b0), .second, .val (.long c0), .second, .val (.long d0), .second, .val (.int fl), .val (.long vb), .second, .val (.long vc), .second, .val (.long vd), .second, .val (.int k), .val (.ref a), .val (.int nn), .val (.ref wv), .val (.int (1 : Int32))] [])) _
    refine XS.iload X0.here hx rfl (hb hby at_219) rfl ?_
    show Steps p.tables e below (T0.setTop (mkF m 221 #[.val (.long va), .second, .val (.long b0), .second, .val (.long c0), .second, .val (.long d0), .second, .val (.int fl), .val (.long vb), .second, .val (.long vc), .second, .val (.long vd), .second, .val (.int k), .val (.ref a), .val (.int nn), .val (.ref wv), .val (.int (1 : Int32))] [(.int k)])) _
    refine XS.ifYes X0.here hx rfl (pc0 := 221) (pc' := 246) rfl (hb hby at_221) rfl ((if0 _ _).trans (flt h).2.2.2) (by decide) (by decide) ?_
    exact kt
set_option maxRecDepth 65536 in
set_option maxHeartbeats 40000000 in
theorem own_ck1 {p : Program} {l : Launch} {e : Env} {s : State} {m : MethodId} {args : Array Value} {below : List Frame} {meth : Method} {c : Code} {T0 : State} {locs : List Loc} {Z : State} {a0 : Array Value} {h0 : Heap} (va : Int64) (b0 : Int64) (c0 : Int64) (d0 : Int64) (fl : Int32) (vb : Int64) (vc : Int64) (vd : Int64) (k : Int32) (a : Addr) (nn : Int32) (wv : Addr) (ws : List Int64)
    (X0 : Stand p l e room_1 s m args below meth c T0 locs (0 + 1 + 4 + 1) (0 + 5 + 39 + 16)) (hx : p.tables.exec = Jvm.exec) (hZ : Z.Warmed39 s.vm) (hw : ∀ d ∈ tables_1, d.before a0 Z = true) (hby : c.code = code) (hml : c.maxLocals = 20) (hown : s.vm.findClass "com/example/intact_keys/intactkeys/check/KeySetPackedValuesPinLaw" = some m.cls) (e0 : T0.heap = h0) (n0 : Nat) (Z0 : n0 ≤ h0.size) (N : Fr n0 locs) (A : own_J Z h0 wv ws) (hl : ws.length ≤ 4) (nd : ws.Nodup) (hm : (1 : Int32) < k → vb ∈ ws) :
    ∃ (T' : State) (L' : List Loc), Stand p l e room_1 s m args below meth c T' L' (0 + 1 + 4 + 1) (0 + 5 + 39 + 16) ∧ T'.heap = h0 ∧ Fr n0 L' ∧
      ∀ target, Steps p.tables e below (T'.setTop (mkF m 275 #[.val (.long va), .second, .val (.long b0), .second, .val (.long c0), .second, .val (.long d0), .second, .val (.int fl), .val (.long vb), .second, .val (.long vc), .second, .val (.long vd), .second, .val (.int k), .val (.ref a), .val (.int nn), .val (.ref wv), .val (.int (1 : Int32))] [])) target → Steps p.tables e below (T0.setTop (mkF m 246 #[.val (.long va), .second, .val (.long b0), .second, .val (.long c0), .second, .val (.long d0), .second, .val (.int fl), .val (.long vb), .second, .val (.long vc), .second, .val (.long vd), .second, .val (.int k), .val (.ref a), .val (.int nn), .val (.ref wv), .val (.int (1 : Int32))] [])) target := by
  by_cases h : (1 : Int32) < k
  ·
    obtain ⟨_, _, ⟨T1, L1, k1, n1⟩, -, X1, ⟨Lc1, hQ1, l1, y1, z1⟩, st1⟩ := Jvm.LawKit.callS X0 hx (y := (⟨"com/example/intact_keys/intactkeys/check/KeySetPackedValuesPinLaw", "count", "([JJ)I"⟩ : MethodName)) hown (mvT hZ (hw _ (List.mem_of_getElem? (i := 66) rfl))) (mvT hZ (hw _ (List.mem_of_getElem? (i := 67) rfl))) (mvT hZ (hw _ (List.mem_of_getElem? (i := 68) rfl))) (mvT hZ (hw _ (List.mem_of_getElem? (i := 69) rfl))) (by decide) (backOf (W := 0) (rm10 l Z a0 hw [] wv vb ws h0 n0 Z0 A hl nd (hm h)) hZ (hw _ (List.mem_of_getElem? (i := 69) rfl)) (hw _ (List.mem_of_getElem? (i := 68) rfl)) (by decide) (by decide)) (g := (mkF m 261 #[.val (.long va), .second, .val (.long b0), .second, .val (.long c0), .second, .val (.long d0), .second, .val (.int fl), .val (.long vb), .second, .val (.long vc), .second, .val (.long vd), .second, .val (.int k), .val (.ref a), .val (.int nn), .val (.ref wv), .val (.int (1 : Int32))] [(.long vb), (.ref wv)])) rfl (by rw [hml]; rfl) (argsL := [(.ref wv), (.long vb)]) (rest := []) (lenOf (show parseMethodDescriptor "([JJ)I" = some ⟨[(.array .long), .long], (some .int)⟩ from by decide +kernel) rfl) rfl (by show 2 * 0 + _ ≤ _; exact Nat.le_of_eq rfl) (hb hby at_261) (fun _ _ => ⟨rfl, e0, (by decide : 0 + 1 + 4 + 1 + 0 ≤ _), (by decide : 0 + 5 + 39 + 16 + 0 ≤ _)⟩)
    dsimp only [Pt.U, Pt.locs, Pt.cells, Pt.slots] at X1 l1 y1 z1 st1 hQ1
    subst l1 y1 z1
    obtain ⟨rfl, N1q, e1⟩ := hQ1
    have N1 := Fr.app N N1q
    refine ⟨T1, _, X1, e1, N1, fun target kt => ?_⟩
    show Steps p.tables e below (T0.setTop (mkF m 246 #[.val (.long va), .second, .val (.long b0), .second, .val (.long c0), .second, .val (.long d0), .second, .val (.int fl), .val (.long vb), .second, .val (.long vc), .second, .val (.long vd), .second, .val (.int k), .val (.ref a), .val (.int nn), .val (.ref wv), .val (.int (1 : Int32))] [])) _
    refine XS.iload X0.here hx rfl (hb hby at_246) rfl ?_
    show Steps p.tables e below (T0.setTop (mkF m 248 #[.val (.long va), .second, .val (.long b0), .second, .val (.long c0), .second, .val (.long d0), .second, .val (.int fl), .val (.long vb), .second, .val (.long vc), .second, .val (.long vd), .second, .val (.int k), .val (.ref a), .val (.int nn), .val (.ref wv), .val (.int (1 : Int32))] [(.int k)])) _
    refine XS.iconst X0.here hx rfl (hb hby at_248) ?_
    show Steps p.tables e below (T0.setTop (mkF m 249 #[.val (.long va), .second, .val (.long b0), .second, .val (.long c0), .second, .val (.long d0), .second, .val (.int fl), .val (.long vb), .second, .val (.long vc), .second, .val (.long vd), .second, .val (.int k), .val (.ref a), .val (.int nn), .val (.ref wv), .val (.int (1 : Int32))] [(.int (1 : Int32)), (.int k)])) _
    refine XS.icmpNo X0.here hx rfl (hb hby at_249) rfl (tlt h).2.2.2 ?_
    show Steps p.tables e below (T0.setTop (mkF m 252 #[.val (.long va), .second, .val (.long b0), .second, .val (.long c0), .second, .val (.long d0), .second, .val (.int fl), .val (.long vb), .second, .val (.long vc), .second, .val (.long vd), .second, .val (.int k), .val (.ref a), .val (.int nn), .val (.ref wv), .val (.int (1 : Int32))] [])) _
    refine XS.iload X0.here hx rfl (hb hby at_252) rfl ?_
    show Steps p.tables e below (T0.setTop (mkF m 254 #[.val (.long va), .second, .val (.long b0), .second, .val (.long c0), .second, .val (.long d0), .second, .val (.int fl), .val (.long vb), .second, .val (.long vc), .second, .val (.long vd), .second, .val (.int k), .val (.ref a), .val (.int nn), .val (.ref wv), .val (.int (1 : Int32))] [(.int (1 : Int32))])) _
    refine XS.ifNo X0.here hx rfl (hb hby at_254) rfl ((if0 _ _).trans (feq (by decide : ¬ ((1 : Int32) = (0 : Int32)))).1) ?_
    show Steps p.tables e below (T0.setTop (mkF m 257 #[.val (.long va), .second, .val (.long b0), .second, .val (.long c0), .second, .val (.long d0), .second, .val (.int fl), .val (.long vb), .second, .val (.long vc), .second, .val (.long vd), .second, .val (.int k), .val (.ref a), .val (.int nn), .val (.ref wv), .val (.int (1 : Int32))] [])) _
    refine XS.aload X0.here hx rfl (hb hby at_257) rfl rfl ?_
    show Steps p.tables e below (T0.setTop (mkF m 259 #[.val (.long va), .second, .val (.long b0), .second, .val (.long c0), .second, .val (.long d0), .second, .val (.int fl), .val (.long vb), .second, .val (.long vc), .second, .val (.long vd), .second, .val (.int k), .val (.ref a), .val (.int nn), .val (.ref wv), .val (.int (1 : Int32))] [(.ref wv)])) _
    refine XS.lload X0.here hx rfl (hb hby at_259) rfl ?_
    show Steps p.tables e below (T0.setTop (mkF m 261 #[.val (.long va), .second, .val (.long b0), .second, .val (.long c0), .second, .val (.long d0), .second, .val (.int fl), .val (.long vb), .second, .val (.long vc), .second, .val (.long vd), .second, .val (.int k), .val (.ref a), .val (.int nn), .val (.ref wv), .val (.int (1 : Int32))] [(.long vb), (.ref wv)])) _
    refine st1 _ ?_
    show Steps p.tables e below (T1.setTop (mkF m 264 #[.val (.long va), .second, .val (.long b0), .second, .val (.long c0), .second, .val (.long d0), .second, .val (.int fl), .val (.long vb), .second, .val (.long vc), .second, .val (.long vd), .second, .val (.int k), .val (.ref a), .val (.int nn), .val (.ref wv), .val (.int (1 : Int32))] [(.int (1 : Int32))])) _
    refine XS.iconst X1.here hx rfl (hb hby at_264) ?_
    show Steps p.tables e below (T1.setTop (mkF m 265 #[.val (.long va), .second, .val (.long b0), .second, .val (.long c0), .second, .val (.long d0), .second, .val (.int fl), .val (.long vb), .second, .val (.long vc), .second, .val (.long vd), .second, .val (.int k), .val (.ref a), .val (.int nn), .val (.ref wv), .val (.int (1 : Int32))] [(.int (1 : Int32)), (.int (1 : Int32))])) _
    refine XS.icmpNo X1.here hx rfl (hb hby at_265) rfl (teq (rfl : (1 : Int32) = (1 : Int32))).2 ?_
    show Steps p.tables e below (T1.setTop (mkF m 268 #[.val (.long va), .second, .val (.long b0), .second, .val (.long c0), .second, .val (.long d0), .second, .val (.int fl), .val (.long vb), .second, .val (.long vc), .second, .val (.long vd), .second, .val (.int k), .val (.ref a), .val (.int nn), .val (.ref wv), .val (.int (1 : Int32))] [])) _
    refine XS.iconst X1.here hx rfl (hb hby at_268) ?_
    show Steps p.tables e below (T1.setTop (mkF m 269 #[.val (.long va), .second, .val (.long b0), .second, .val (.long c0), .second, .val (.long d0), .second, .val (.int fl), .val (.long vb), .second, .val (.long vc), .second, .val (.long vd), .second, .val (.int k), .val (.ref a), .val (.int nn), .val (.ref wv), .val (.int (1 : Int32))] [(.int (1 : Int32))])) _
    refine XS.goto X1.here hx rfl (pc0 := 269) (pc' := 273) rfl (hb hby at_269) (by decide) (by decide) ?_
    show Steps p.tables e below (T1.setTop (mkF m 273 #[.val (.long va), .second, .val (.long b0), .second, .val (.long c0), .second, .val (.long d0), .second, .val (.int fl), .val (.long vb), .second, .val (.long vc), .second, .val (.long vd), .second, .val (.int k), .val (.ref a), .val (.int nn), .val (.ref wv), .val (.int (1 : Int32))] [(.int (1 : Int32))])) _
    refine XS.istore X1.here hx rfl (hb hby at_273) rfl (l' := #[.val (.long va), .second, .val (.long b0), .second, .val (.long c0), .second, .val (.long d0), .second, .val (.int fl), .val (.long vb), .second, .val (.long vc), .second, .val (.long vd), .second, .val (.int k), .val (.ref a), .val (.int nn), .val (.ref wv), .val (.int (1 : Int32))]) rfl ?_
    exact kt
  · refine ⟨T0, locs, X0, e0, N, fun target kt => ?_⟩
    show Steps p.tables e below (T0.setTop (mkF m 246 #[.val (.long va), .second, .val (.long b0), .second, .val (.long c0), .second, .val (.long d0), .second, .val (.int fl), .val (.long vb), .second, .val (.long vc), .second, .val (.long vd), .second, .val (.int k), .val (.ref a), .val (.int nn), .val (.ref wv), .val (.int (1 : Int32))] [])) _
    refine XS.iload X0.here hx rfl (hb hby at_246) rfl ?_
    show Steps p.tables e below (T0.setTop (mkF m 248 #[.val (.long va), .second, .val (.long b0), .second, .val (.long c0), .second, .val (.long d0), .second, .val (.int fl), .val (.long vb), .second, .val (.long vc), .second, .val (.long vd), .second, .val (.int k), .val (.ref a), .val (.int nn), .val (.ref wv), .val (.int (1 : Int32))] [(.int k)])) _
    refine XS.iconst X0.here hx rfl (hb hby at_248) ?_
    show Steps p.tables e below (T0.setTop (mkF m 249 #[.val (.long va), .second, .val (.long b0), .second, .val (.long c0), .second, .val (.long d0), .second, .val (.int fl), .val (.long vb), .second, .val (.long vc), .second, .val (.long vd), .second, .val (.int k), .val (.ref a), .val (.int nn), .val (.ref wv), .val (.int (1 : Int32))] [(.int (1 : Int32)), (.int k)])) _
    refine XS.icmpYes X0.here hx rfl (pc0 := 249) (pc' := 275) rfl (hb hby at_249) rfl (flt h).2.2.2 (by decide) (by decide) ?_
    exact kt
set_option maxRecDepth 65536 in
set_option maxHeartbeats 40000000 in
theorem own_ck2 {p : Program} {l : Launch} {e : Env} {s : State} {m : MethodId} {args : Array Value} {below : List Frame} {meth : Method} {c : Code} {T0 : State} {locs : List Loc} {Z : State} {a0 : Array Value} {h0 : Heap} (va : Int64) (b0 : Int64) (c0 : Int64) (d0 : Int64) (fl : Int32) (vb : Int64) (vc : Int64) (vd : Int64) (k : Int32) (a : Addr) (nn : Int32) (wv : Addr) (ws : List Int64)
    (X0 : Stand p l e room_1 s m args below meth c T0 locs (0 + 1 + 4 + 1) (0 + 5 + 39 + 16)) (hx : p.tables.exec = Jvm.exec) (hZ : Z.Warmed39 s.vm) (hw : ∀ d ∈ tables_1, d.before a0 Z = true) (hby : c.code = code) (hml : c.maxLocals = 20) (hown : s.vm.findClass "com/example/intact_keys/intactkeys/check/KeySetPackedValuesPinLaw" = some m.cls) (e0 : T0.heap = h0) (n0 : Nat) (Z0 : n0 ≤ h0.size) (N : Fr n0 locs) (A : own_J Z h0 wv ws) (hl : ws.length ≤ 4) (nd : ws.Nodup) (hm : (2 : Int32) < k → vc ∈ ws) :
    ∃ (T' : State) (L' : List Loc), Stand p l e room_1 s m args below meth c T' L' (0 + 1 + 4 + 1) (0 + 5 + 39 + 16) ∧ T'.heap = h0 ∧ Fr n0 L' ∧
      ∀ target, Steps p.tables e below (T'.setTop (mkF m 304 #[.val (.long va), .second, .val (.long b0), .second, .val (.long c0), .second, .val (.long d0), .second, .val (.int fl), .val (.long vb), .second, .val (.long vc), .second, .val (.long vd), .second, .val (.int k), .val (.ref a), .val (.int nn), .val (.ref wv), .val (.int (1 : Int32))] [])) target → Steps p.tables e below (T0.setTop (mkF m 275 #[.val (.long va), .second, .val (.long b0), .second, .val (.long c0), .second, .val (.long d0), .second, .val (.int fl), .val (.long vb), .second, .val (.long vc), .second, .val (.long vd), .second, .val (.int k), .val (.ref a), .val (.int nn), .val (.ref wv), .val (.int (1 : Int32))] [])) target := by
  by_cases h : (2 : Int32) < k
  ·
    obtain ⟨_, _, ⟨T1, L1, k1, n1⟩, -, X1, ⟨Lc1, hQ1, l1, y1, z1⟩, st1⟩ := Jvm.LawKit.callS X0 hx (y := (⟨"com/example/intact_keys/intactkeys/check/KeySetPackedValuesPinLaw", "count", "([JJ)I"⟩ : MethodName)) hown (mvT hZ (hw _ (List.mem_of_getElem? (i := 66) rfl))) (mvT hZ (hw _ (List.mem_of_getElem? (i := 67) rfl))) (mvT hZ (hw _ (List.mem_of_getElem? (i := 68) rfl))) (mvT hZ (hw _ (List.mem_of_getElem? (i := 69) rfl))) (by decide) (backOf (W := 0) (rm10 l Z a0 hw [] wv vc ws h0 n0 Z0 A hl nd (hm h)) hZ (hw _ (List.mem_of_getElem? (i := 69) rfl)) (hw _ (List.mem_of_getElem? (i := 68) rfl)) (by decide) (by decide)) (g := (mkF m 290 #[.val (.long va), .second, .val (.long b0), .second, .val (.long c0), .second, .val (.long d0), .second, .val (.int fl), .val (.long vb), .second, .val (.long vc), .second, .val (.long vd), .second, .val (.int k), .val (.ref a), .val (.int nn), .val (.ref wv), .val (.int (1 : Int32))] [(.long vc), (.ref wv)])) rfl (by rw [hml]; rfl) (argsL := [(.ref wv), (.long vc)]) (rest := []) (lenOf (show parseMethodDescriptor "([JJ)I" = some ⟨[(.array .long), .long], (some .int)⟩ from by decide +kernel) rfl) rfl (by show 2 * 0 + _ ≤ _; exact Nat.le_of_eq rfl) (hb hby at_290) (fun _ _ => ⟨rfl, e0, (by decide : 0 + 1 + 4 + 1 + 0 ≤ _), (by decide : 0 + 5 + 39 + 16 + 0 ≤ _)⟩)
    dsimp only [Pt.U, Pt.locs, Pt.cells, Pt.slots] at X1 l1 y1 z1 st1 hQ1
    subst l1 y1 z1
    obtain ⟨rfl, N1q, e1⟩ := hQ1
    have N1 := Fr.app N N1q
    refine ⟨T1, _, X1, e1, N1, fun target kt => ?_⟩
    show Steps p.tables e below (T0.setTop (mkF m 275 #[.val (.long va), .second, .val (.long b0), .second, .val (.long c0), .second, .val (.long d0), .second, .val (.int fl), .val (.long vb), .second, .val (.long vc), .second, .val (.long vd), .second, .val (.int k), .val (.ref a), .val (.int nn), .val (.ref wv), .val (.int (1 : Int32))] [])) _
    refine XS.iload X0.here hx rfl (hb hby at_275) rfl ?_
    show Steps p.tables e below (T0.setTop (mkF m 277 #[.val (.long va), .second, .val (.long b0), .second, .val (.long c0), .second, .val (.long d0), .second, .val (.int fl), .val (.long vb), .second, .val (.long vc), .second, .val (.long vd), .second, .val (.int k), .val (.ref a), .val (.int nn), .val (.ref wv), .val (.int (1 : Int32))] [(.int k)])) _
    refine XS.iconst X0.here hx rfl (hb hby at_277) ?_
    show Steps p.tables e below (T0.setTop (mkF m 278 #[.val (.long va), .second, .val (.long b0), .second, .val (.long c0), .second, .val (.long d0), .second, .val (.int fl), .val (.long vb), .second, .val (.long vc), .second, .val (.long vd), .second, .val (.int k), .val (.ref a), .val (.int nn), .val (.ref wv), .val (.int (1 : Int32))] [(.int (2 : Int32)), (.int k)])) _
    refine XS.icmpNo X0.here hx rfl (hb hby at_278) rfl (tlt h).2.2.2 ?_
    show Steps p.tables e below (T0.setTop (mkF m 281 #[.val (.long va), .second, .val (.long b0), .second, .val (.long c0), .second, .val (.long d0), .second, .val (.int fl), .val (.long vb), .second, .val (.long vc), .second, .val (.long vd), .second, .val (.int k), .val (.ref a), .val (.int nn), .val (.ref wv), .val (.int (1 : Int32))] [])) _
    refine XS.iload X0.here hx rfl (hb hby at_281) rfl ?_
    show Steps p.tables e below (T0.setTop (mkF m 283 #[.val (.long va), .second, .val (.long b0), .second, .val (.long c0), .second, .val (.long d0), .second, .val (.int fl), .val (.long vb), .second, .val (.long vc), .second, .val (.long vd), .second, .val (.int k), .val (.ref a), .val (.int nn), .val (.ref wv), .val (.int (1 : Int32))] [(.int (1 : Int32))])) _
    refine XS.ifNo X0.here hx rfl (hb hby at_283) rfl ((if0 _ _).trans (feq (by decide : ¬ ((1 : Int32) = (0 : Int32)))).1) ?_
    show Steps p.tables e below (T0.setTop (mkF m 286 #[.val (.long va), .second, .val (.long b0), .second, .val (.long c0), .second, .val (.long d0), .second, .val (.int fl), .val (.long vb), .second, .val (.long vc), .second, .val (.long vd), .second, .val (.int k), .val (.ref a), .val (.int nn), .val (.ref wv), .val (.int (1 : Int32))] [])) _
    refine XS.aload X0.here hx rfl (hb hby at_286) rfl rfl ?_
    show Steps p.tables e below (T0.setTop (mkF m 288 #[.val (.long va), .second, .val (.long b0), .second, .val (.long c0), .second, .val (.long d0), .second, .val (.int fl), .val (.long vb), .second, .val (.long vc), .second, .val (.long vd), .second, .val (.int k), .val (.ref a), .val (.int nn), .val (.ref wv), .val (.int (1 : Int32))] [(.ref wv)])) _
    refine XS.lload X0.here hx rfl (hb hby at_288) rfl ?_
    show Steps p.tables e below (T0.setTop (mkF m 290 #[.val (.long va), .second, .val (.long b0), .second, .val (.long c0), .second, .val (.long d0), .second, .val (.int fl), .val (.long vb), .second, .val (.long vc), .second, .val (.long vd), .second, .val (.int k), .val (.ref a), .val (.int nn), .val (.ref wv), .val (.int (1 : Int32))] [(.long vc), (.ref wv)])) _
    refine st1 _ ?_
    show Steps p.tables e below (T1.setTop (mkF m 293 #[.val (.long va), .second, .val (.long b0), .second, .val (.long c0), .second, .val (.long d0), .second, .val (.int fl), .val (.long vb), .second, .val (.long vc), .second, .val (.long vd), .second, .val (.int k), .val (.ref a), .val (.int nn), .val (.ref wv), .val (.int (1 : Int32))] [(.int (1 : Int32))])) _
    refine XS.iconst X1.here hx rfl (hb hby at_293) ?_
    show Steps p.tables e below (T1.setTop (mkF m 294 #[.val (.long va), .second, .val (.long b0), .second, .val (.long c0), .second, .val (.long d0), .second, .val (.int fl), .val (.long vb), .second, .val (.long vc), .second, .val (.long vd), .second, .val (.int k), .val (.ref a), .val (.int nn), .val (.ref wv), .val (.int (1 : Int32))] [(.int (1 : Int32)), (.int (1 : Int32))])) _
    refine XS.icmpNo X1.here hx rfl (hb hby at_294) rfl (teq (rfl : (1 : Int32) = (1 : Int32))).2 ?_
    show Steps p.tables e below (T1.setTop (mkF m 297 #[.val (.long va), .second, .val (.long b0), .second, .val (.long c0), .second, .val (.long d0), .second, .val (.int fl), .val (.long vb), .second, .val (.long vc), .second, .val (.long vd), .second, .val (.int k), .val (.ref a), .val (.int nn), .val (.ref wv), .val (.int (1 : Int32))] [])) _
    refine XS.iconst X1.here hx rfl (hb hby at_297) ?_
    show Steps p.tables e below (T1.setTop (mkF m 298 #[.val (.long va), .second, .val (.long b0), .second, .val (.long c0), .second, .val (.long d0), .second, .val (.int fl), .val (.long vb), .second, .val (.long vc), .second, .val (.long vd), .second, .val (.int k), .val (.ref a), .val (.int nn), .val (.ref wv), .val (.int (1 : Int32))] [(.int (1 : Int32))])) _
    refine XS.goto X1.here hx rfl (pc0 := 298) (pc' := 302) rfl (hb hby at_298) (by decide) (by decide) ?_
    show Steps p.tables e below (T1.setTop (mkF m 302 #[.val (.long va), .second, .val (.long b0), .second, .val (.long c0), .second, .val (.long d0), .second, .val (.int fl), .val (.long vb), .second, .val (.long vc), .second, .val (.long vd), .second, .val (.int k), .val (.ref a), .val (.int nn), .val (.ref wv), .val (.int (1 : Int32))] [(.int (1 : Int32))])) _
    refine XS.istore X1.here hx rfl (hb hby at_302) rfl (l' := #[.val (.long va), .second, .val (.long b0), .second, .val (.long c0), .second, .val (.long d0), .second, .val (.int fl), .val (.long vb), .second, .val (.long vc), .second, .val (.long vd), .second, .val (.int k), .val (.ref a), .val (.int nn), .val (.ref wv), .val (.int (1 : Int32))]) rfl ?_
    exact kt
  · refine ⟨T0, locs, X0, e0, N, fun target kt => ?_⟩
    show Steps p.tables e below (T0.setTop (mkF m 275 #[.val (.long va), .second, .val (.long b0), .second, .val (.long c0), .second, .val (.long d0), .second, .val (.int fl), .val (.long vb), .second, .val (.long vc), .second, .val (.long vd), .second, .val (.int k), .val (.ref a), .val (.int nn), .val (.ref wv), .val (.int (1 : Int32))] [])) _
    refine XS.iload X0.here hx rfl (hb hby at_275) rfl ?_
    show Steps p.tables e below (T0.setTop (mkF m 277 #[.val (.long va), .second, .val (.long b0), .second, .val (.long c0), .second, .val (.long d0), .second, .val (.int fl), .val (.long vb), .second, .val (.long vc), .second, .val (.long vd), .second, .val (.int k), .val (.ref a), .val (.int nn), .val (.ref wv), .val (.int (1 : Int32))] [(.int k)])) _
    refine XS.iconst X0.here hx rfl (hb hby at_277) ?_
    show Steps p.tables e below (T0.setTop (mkF m 278 #[.val (.long va), .second, .val (.long b0), .second, .val (.long c0), .second, .val (.long d0), .second, .val (.int fl), .val (.long vb), .second, .val (.long vc), .second, .val (.long vd), .second, .val (.int k), .val (.ref a), .val (.int nn), .val (.ref wv), .val (.int (1 : Int32))] [(.int (2 : Int32)), (.int k)])) _
    refine XS.icmpYes X0.here hx rfl (pc0 := 278) (pc' := 304) rfl (hb hby at_278) rfl (flt h).2.2.2 (by decide) (by decide) ?_
    exact kt
set_option maxRecDepth 65536 in
set_option maxHeartbeats 40000000 in
theorem own_ck3 {p : Program} {l : Launch} {e : Env} {s : State} {m : MethodId} {args : Array Value} {below : List Frame} {meth : Method} {c : Code} {T0 : State} {locs : List Loc} {Z : State} {a0 : Array Value} {h0 : Heap} (va : Int64) (b0 : Int64) (c0 : Int64) (d0 : Int64) (fl : Int32) (vb : Int64) (vc : Int64) (vd : Int64) (k : Int32) (a : Addr) (nn : Int32) (wv : Addr) (ws : List Int64)
    (X0 : Stand p l e room_1 s m args below meth c T0 locs (0 + 1 + 4 + 1) (0 + 5 + 39 + 16)) (hx : p.tables.exec = Jvm.exec) (hZ : Z.Warmed39 s.vm) (hw : ∀ d ∈ tables_1, d.before a0 Z = true) (hby : c.code = code) (hml : c.maxLocals = 20) (hown : s.vm.findClass "com/example/intact_keys/intactkeys/check/KeySetPackedValuesPinLaw" = some m.cls) (e0 : T0.heap = h0) (n0 : Nat) (Z0 : n0 ≤ h0.size) (N : Fr n0 locs) (A : own_J Z h0 wv ws) (hl : ws.length ≤ 4) (nd : ws.Nodup) (hm : (3 : Int32) < k → vd ∈ ws) :
    ∃ (T' : State) (L' : List Loc), Stand p l e room_1 s m args below meth c T' L' (0 + 1 + 4 + 1) (0 + 5 + 39 + 16) ∧ T'.heap = h0 ∧ Fr n0 L' ∧
      ∀ target, Steps p.tables e below (T'.setTop (mkF m 333 #[.val (.long va), .second, .val (.long b0), .second, .val (.long c0), .second, .val (.long d0), .second, .val (.int fl), .val (.long vb), .second, .val (.long vc), .second, .val (.long vd), .second, .val (.int k), .val (.ref a), .val (.int nn), .val (.ref wv), .val (.int (1 : Int32))] [])) target → Steps p.tables e below (T0.setTop (mkF m 304 #[.val (.long va), .second, .val (.long b0), .second, .val (.long c0), .second, .val (.long d0), .second, .val (.int fl), .val (.long vb), .second, .val (.long vc), .second, .val (.long vd), .second, .val (.int k), .val (.ref a), .val (.int nn), .val (.ref wv), .val (.int (1 : Int32))] [])) target := by
  by_cases h : (3 : Int32) < k
  ·
    obtain ⟨_, _, ⟨T1, L1, k1, n1⟩, -, X1, ⟨Lc1, hQ1, l1, y1, z1⟩, st1⟩ := Jvm.LawKit.callS X0 hx (y := (⟨"com/example/intact_keys/intactkeys/check/KeySetPackedValuesPinLaw", "count", "([JJ)I"⟩ : MethodName)) hown (mvT hZ (hw _ (List.mem_of_getElem? (i := 66) rfl))) (mvT hZ (hw _ (List.mem_of_getElem? (i := 67) rfl))) (mvT hZ (hw _ (List.mem_of_getElem? (i := 68) rfl))) (mvT hZ (hw _ (List.mem_of_getElem? (i := 69) rfl))) (by decide) (backOf (W := 0) (rm10 l Z a0 hw [] wv vd ws h0 n0 Z0 A hl nd (hm h)) hZ (hw _ (List.mem_of_getElem? (i := 69) rfl)) (hw _ (List.mem_of_getElem? (i := 68) rfl)) (by decide) (by decide)) (g := (mkF m 319 #[.val (.long va), .second, .val (.long b0), .second, .val (.long c0), .second, .val (.long d0), .second, .val (.int fl), .val (.long vb), .second, .val (.long vc), .second, .val (.long vd), .second, .val (.int k), .val (.ref a), .val (.int nn), .val (.ref wv), .val (.int (1 : Int32))] [(.long vd), (.ref wv)])) rfl (by rw [hml]; rfl) (argsL := [(.ref wv), (.long vd)]) (rest := []) (lenOf (show parseMethodDescriptor "([JJ)I" = some ⟨[(.array .long), .long], (some .int)⟩ from by decide +kernel) rfl) rfl (by show 2 * 0 + _ ≤ _; exact Nat.le_of_eq rfl) (hb hby at_319) (fun _ _ => ⟨rfl, e0, (by decide : 0 + 1 + 4 + 1 + 0 ≤ _), (by decide : 0 + 5 + 39 + 16 + 0 ≤ _)⟩)
    dsimp only [Pt.U, Pt.locs, Pt.cells, Pt.slots] at X1 l1 y1 z1 st1 hQ1
    subst l1 y1 z1
    obtain ⟨rfl, N1q, e1⟩ := hQ1
    have N1 := Fr.app N N1q
    refine ⟨T1, _, X1, e1, N1, fun target kt => ?_⟩
    show Steps p.tables e below (T0.setTop (mkF m 304 #[.val (.long va), .second, .val (.long b0), .second, .val (.long c0), .second, .val (.long d0), .second, .val (.int fl), .val (.long vb), .second, .val (.long vc), .second, .val (.long vd), .second, .val (.int k), .val (.ref a), .val (.int nn), .val (.ref wv), .val (.int (1 : Int32))] [])) _
    refine XS.iload X0.here hx rfl (hb hby at_304) rfl ?_
    show Steps p.tables e below (T0.setTop (mkF m 306 #[.val (.long va), .second, .val (.long b0), .second, .val (.long c0), .second, .val (.long d0), .second, .val (.int fl), .val (.long vb), .second, .val (.long vc), .second, .val (.long vd), .second, .val (.int k), .val (.ref a), .val (.int nn), .val (.ref wv), .val (.int (1 : Int32))] [(.int k)])) _
    refine XS.iconst X0.here hx rfl (hb hby at_306) ?_
    show Steps p.tables e below (T0.setTop (mkF m 307 #[.val (.long va), .second, .val (.long b0), .second, .val (.long c0), .second, .val (.long d0), .second, .val (.int fl), .val (.long vb), .second, .val (.long vc), .second, .val (.long vd), .second, .val (.int k), .val (.ref a), .val (.int nn), .val (.ref wv), .val (.int (1 : Int32))] [(.int (3 : Int32)), (.int k)])) _
    refine XS.icmpNo X0.here hx rfl (hb hby at_307) rfl (tlt h).2.2.2 ?_
    show Steps p.tables e below (T0.setTop (mkF m 310 #[.val (.long va), .second, .val (.long b0), .second, .val (.long c0), .second, .val (.long d0), .second, .val (.int fl), .val (.long vb), .second, .val (.long vc), .second, .val (.long vd), .second, .val (.int k), .val (.ref a), .val (.int nn), .val (.ref wv), .val (.int (1 : Int32))] [])) _
    refine XS.iload X0.here hx rfl (hb hby at_310) rfl ?_
    show Steps p.tables e below (T0.setTop (mkF m 312 #[.val (.long va), .second, .val (.long b0), .second, .val (.long c0), .second, .val (.long d0), .second, .val (.int fl), .val (.long vb), .second, .val (.long vc), .second, .val (.long vd), .second, .val (.int k), .val (.ref a), .val (.int nn), .val (.ref wv), .val (.int (1 : Int32))] [(.int (1 : Int32))])) _
    refine XS.ifNo X0.here hx rfl (hb hby at_312) rfl ((if0 _ _).trans (feq (by decide : ¬ ((1 : Int32) = (0 : Int32)))).1) ?_
    show Steps p.tables e below (T0.setTop (mkF m 315 #[.val (.long va), .second, .val (.long b0), .second, .val (.long c0), .second, .val (.long d0), .second, .val (.int fl), .val (.long vb), .second, .val (.long vc), .second, .val (.long vd), .second, .val (.int k), .val (.ref a), .val (.int nn), .val (.ref wv), .val (.int (1 : Int32))] [])) _
    refine XS.aload X0.here hx rfl (hb hby at_315) rfl rfl ?_
    show Steps p.tables e below (T0.setTop (mkF m 317 #[.val (.long va), .second, .val (.long b0), .second, .val (.long c0), .second, .val (.long d0), .second, .val (.int fl), .val (.long vb), .second, .val (.long vc), .second, .val (.long vd), .second, .val (.int k), .val (.ref a), .val (.int nn), .val (.ref wv), .val (.int (1 : Int32))] [(.ref wv)])) _
    refine XS.lload X0.here hx rfl (hb hby at_317) rfl ?_
    show Steps p.tables e below (T0.setTop (mkF m 319 #[.val (.long va), .second, .val (.long b0), .second, .val (.long c0), .second, .val (.long d0), .second, .val (.int fl), .val (.long vb), .second, .val (.long vc), .second, .val (.long vd), .second, .val (.int k), .val (.ref a), .val (.int nn), .val (.ref wv), .val (.int (1 : Int32))] [(.long vd), (.ref wv)])) _
    refine st1 _ ?_
    show Steps p.tables e below (T1.setTop (mkF m 322 #[.val (.long va), .second, .val (.long b0), .second, .val (.long c0), .second, .val (.long d0), .second, .val (.int fl), .val (.long vb), .second, .val (.long vc), .second, .val (.long vd), .second, .val (.int k), .val (.ref a), .val (.int nn), .val (.ref wv), .val (.int (1 : Int32))] [(.int (1 : Int32))])) _
    refine XS.iconst X1.here hx rfl (hb hby at_322) ?_
    show Steps p.tables e below (T1.setTop (mkF m 323 #[.val (.long va), .second, .val (.long b0), .second, .val (.long c0), .second, .val (.long d0), .second, .val (.int fl), .val (.long vb), .second, .val (.long vc), .second, .val (.long vd), .second, .val (.int k), .val (.ref a), .val (.int nn), .val (.ref wv), .val (.int (1 : Int32))] [(.int (1 : Int32)), (.int (1 : Int32))])) _
    refine XS.icmpNo X1.here hx rfl (hb hby at_323) rfl (teq (rfl : (1 : Int32) = (1 : Int32))).2 ?_
    show Steps p.tables e below (T1.setTop (mkF m 326 #[.val (.long va), .second, .val (.long b0), .second, .val (.long c0), .second, .val (.long d0), .second, .val (.int fl), .val (.long vb), .second, .val (.long vc), .second, .val (.long vd), .second, .val (.int k), .val (.ref a), .val (.int nn), .val (.ref wv), .val (.int (1 : Int32))] [])) _
    refine XS.iconst X1.here hx rfl (hb hby at_326) ?_
    show Steps p.tables e below (T1.setTop (mkF m 327 #[.val (.long va), .second, .val (.long b0), .second, .val (.long c0), .second, .val (.long d0), .second, .val (.int fl), .val (.long vb), .second, .val (.long vc), .second, .val (.long vd), .second, .val (.int k), .val (.ref a), .val (.int nn), .val (.ref wv), .val (.int (1 : Int32))] [(.int (1 : Int32))])) _
    refine XS.goto X1.here hx rfl (pc0 := 327) (pc' := 331) rfl (hb hby at_327) (by decide) (by decide) ?_
    show Steps p.tables e below (T1.setTop (mkF m 331 #[.val (.long va), .second, .val (.long b0), .second, .val (.long c0), .second, .val (.long d0), .second, .val (.int fl), .val (.long vb), .second, .val (.long vc), .second, .val (.long vd), .second, .val (.int k), .val (.ref a), .val (.int nn), .val (.ref wv), .val (.int (1 : Int32))] [(.int (1 : Int32))])) _
    refine XS.istore X1.here hx rfl (hb hby at_331) rfl (l' := #[.val (.long va), .second, .val (.long b0), .second, .val (.long c0), .second, .val (.long d0), .second, .val (.int fl), .val (.long vb), .second, .val (.long vc), .second, .val (.long vd), .second, .val (.int k), .val (.ref a), .val (.int nn), .val (.ref wv), .val (.int (1 : Int32))]) rfl ?_
    exact kt
  · refine ⟨T0, locs, X0, e0, N, fun target kt => ?_⟩
    show Steps p.tables e below (T0.setTop (mkF m 304 #[.val (.long va), .second, .val (.long b0), .second, .val (.long c0), .second, .val (.long d0), .second, .val (.int fl), .val (.long vb), .second, .val (.long vc), .second, .val (.long vd), .second, .val (.int k), .val (.ref a), .val (.int nn), .val (.ref wv), .val (.int (1 : Int32))] [])) _
    refine XS.iload X0.here hx rfl (hb hby at_304) rfl ?_
    show Steps p.tables e below (T0.setTop (mkF m 306 #[.val (.long va), .second, .val (.long b0), .second, .val (.long c0), .second, .val (.long d0), .second, .val (.int fl), .val (.long vb), .second, .val (.long vc), .second, .val (.long vd), .second, .val (.int k), .val (.ref a), .val (.int nn), .val (.ref wv), .val (.int (1 : Int32))] [(.int k)])) _
    refine XS.iconst X0.here hx rfl (hb hby at_306) ?_
    show Steps p.tables e below (T0.setTop (mkF m 307 #[.val (.long va), .second, .val (.long b0), .second, .val (.long c0), .second, .val (.long d0), .second, .val (.int fl), .val (.long vb), .second, .val (.long vc), .second, .val (.long vd), .second, .val (.int k), .val (.ref a), .val (.int nn), .val (.ref wv), .val (.int (1 : Int32))] [(.int (3 : Int32)), (.int k)])) _
    refine XS.icmpYes X0.here hx rfl (pc0 := 307) (pc' := 333) rfl (hb hby at_307) rfl (flt h).2.2.2 (by decide) (by decide) ?_
    exact kt
theorem ef_0 (m : MethodId) (va b0 c0 d0 : Int64) (fl : Int32) : entryFrame m #[(.long va), (.long b0), (.long c0), (.long d0), (.int fl)] maxLocals = (mkF m 0 #[.val (.long va), .second, .val (.long b0), .second, .val (.long c0), .second, .val (.long d0), .second, .val (.int fl), .unset, .unset, .unset, .unset, .unset, .unset, .unset, .unset, .unset, .unset, .unset] []) := by first | (simp [entryFrame, mkF, argsToLocals, Value.category, maxLocals]; done) | rfl
set_option maxRecDepth 65536 in
set_option maxHeartbeats 40000000 in
theorem rm0 (l : Launch) (Z : State) (a0 : Array Value) (hw : ∀ d ∈ tables_1, d.before a0 Z = true) (ws' : List Jvm.Cond) (va b0 c0 d0 : Int64) (fl : Int32) (h0 : Heap) (n0 : Nat) (Z0 : n0 ≤ h0.size) :
    MetFree l x (head1 (Jvm.Cond.code x code maxLocals ret :: ws') room_1) (fun aa U => aa = #[(.long va), (.long b0), (.long c0), (.long d0), (.int fl)] ∧ Z.Warmed39 U.vm ∧ U.heap = h0) (fun _ _ _ _ _ => True) (fun _ U o U' => ∃ v L, o = .returned v ∧ (v = some (.int (1 : Int32)) ∧ Fr n0 L) ∧ FrameEnd U o U' L room_1.cells room_1.slots) := by
  refine MetFree.of_bodySF (plainFor_of_name pn_L) hisR ?_
  intro p e s m args below meth c s₁ Bd hml0 hP hK
  obtain ⟨rfl, hZ, hh⟩ := hP
  have hx := Bd.exec
  have hby := Bd.bytes
  have hml : c.maxLocals = 20 := hml0
  have hown : s.vm.findClass "com/example/intact_keys/intactkeys/check/KeySetPackedValuesPinLaw" = some m.cls := findClass_of_methodNamed Bd.named
  have X0 : Stand p l e room_1 s m #[(.long va), (.long b0), (.long c0), (.long d0), (.int fl)] below meth c s₁ [] 0 0 := Stand.of_body Bd
  have e0 : s₁.heap = h0 := by rw [← hh, Bd.state]; rfl
  have N0 := Fr.nil n0
  obtain ⟨vb, stb⟩ := own_t0 va b0 c0 d0 fl X0 hx hby
  obtain ⟨vc, stc⟩ := own_t14 va b0 c0 d0 fl vb X0 hx hby
  obtain ⟨vd, std⟩ := own_t29 va b0 c0 d0 fl vb vc X0 hx hby
  obtain ⟨k, hk⟩ : ∃ z, z = own_k fl := ⟨_, rfl⟩
  have stk : ∀ t, Steps p.tables e below (s₁.setTop (mkF m 53 #[.val (.long va), .second, .val (.long b0), .second, .val (.long c0), .second, .val (.long d0), .second, .val (.int fl), .val (.long vb), .second, .val (.long vc), .second, .val (.long vd), .second, .val (.int k), .unset, .unset, .unset, .unset] [])) t → Steps p.tables e below (s₁.setTop (mkF m 45 #[.val (.long va), .second, .val (.long b0), .second, .val (.long c0), .second, .val (.long d0), .second, .val (.int fl), .val (.long vb), .second, .val (.long vc), .second, .val (.long vd), .second, .unset, .unset, .unset, .unset, .unset] [])) t := fun t kt => by
    subst hk
    show Steps p.tables e below (s₁.setTop (mkF m 45 #[.val (.long va), .second, .val (.long b0), .second, .val (.long c0), .second, .val (.long d0), .second, .val (.int fl), .val (.long vb), .second, .val (.long vc), .second, .val (.long vd), .second, .unset, .unset, .unset, .unset, .unset] [])) _
    refine XS.iload X0.here hx rfl (hb hby at_45) rfl ?_
    show Steps p.tables e below (s₁.setTop (mkF m 47 #[.val (.long va), .second, .val (.long b0), .second, .val (.long c0), .second, .val (.long d0), .second, .val (.int fl), .val (.long vb), .second, .val (.long vc), .second, .val (.long vd), .second, .unset, .unset, .unset, .unset, .unset] [(.int fl)])) _
    refine XS.iconst X0.here hx rfl (hb hby at_47) ?_
    show Steps p.tables e below (s₁.setTop (mkF m 48 #[.val (.long va), .second, .val (.long b0), .second, .val (.long c0), .second, .val (.long d0), .second, .val (.int fl), .val (.long vb), .second, .val (.long vc), .second, .val (.long vd), .second, .unset, .unset, .unset, .unset, .unset] [(.int (3 : Int32)), (.int fl)])) _
    refine XS.iushr X0.here hx rfl (hb hby at_48) rfl ?_
    show Steps p.tables e below (s₁.setTop (mkF m 49 #[.val (.long va), .second, .val (.long b0), .second, .val (.long c0), .second, .val (.long d0), .second, .val (.int fl), .val (.long vb), .second, .val (.long vc), .second, .val (.long vd), .second, .unset, .unset, .unset, .unset, .unset] [(.int ((fl.toUInt32 >>> ((3 : Int32) &&& 31).toUInt32).toInt32))])) _
    refine XS.iconst X0.here hx rfl (hb hby at_49) ?_
    show Steps p.tables e below (s₁.setTop (mkF m 50 #[.val (.long va), .second, .val (.long b0), .second, .val (.long c0), .second, .val (.long d0), .second, .val (.int fl), .val (.long vb), .second, .val (.long vc), .second, .val (.long vd), .second, .unset, .unset, .unset, .unset, .unset] [(.int (5 : Int32)), (.int ((fl.toUInt32 >>> ((3 : Int32) &&& 31).toUInt32).toInt32))])) _
    refine XS.irem X0.here hx rfl (hb hby at_50) rfl (by decide) ?_
    show Steps p.tables e below (s₁.setTop (mkF m 51 #[.val (.long va), .second, .val (.long b0), .second, .val (.long c0), .second, .val (.long d0), .second, .val (.int fl), .val (.long vb), .second, .val (.long vc), .second, .val (.long vd), .second, .unset, .unset, .unset, .unset, .unset] [(.int (((fl.toUInt32 >>> ((3 : Int32) &&& 31).toUInt32).toInt32) - ((fl.toUInt32 >>> ((3 : Int32) &&& 31).toUInt32).toInt32) / (5 : Int32) * (5 : Int32)))])) _
    refine XS.istore X0.here hx rfl (hb hby at_51) rfl (l' := #[.val (.long va), .second, .val (.long b0), .second, .val (.long c0), .second, .val (.long d0), .second, .val (.int fl), .val (.long vb), .second, .val (.long vc), .second, .val (.long vd), .second, .val (.int (((fl.toUInt32 >>> ((3 : Int32) &&& 31).toUInt32).toInt32) - ((fl.toUInt32 >>> ((3 : Int32) &&& 31).toUInt32).toInt32) / (5 : Int32) * (5 : Int32))), .unset, .unset, .unset, .unset]) rfl ?_
    show Steps p.tables e below (s₁.setTop (mkF m 53 #[.val (.long va), .second, .val (.long b0), .second, .val (.long c0), .second, .val (.long d0), .second, .val (.int fl), .val (.long vb), .second, .val (.long vc), .second, .val (.long vd), .second, .val (.int (((fl.toUInt32 >>> ((3 : Int32) &&& 31).toUInt32).toInt32) - ((fl.toUInt32 >>> ((3 : Int32) &&& 31).toUInt32).toInt32) / (5 : Int32) * (5 : Int32))), .unset, .unset, .unset, .unset] [])) _
    exact kt
  obtain ⟨T1, h1, X1, e1, E1, A1, D1, -, st1⟩ := newO X0 hx hZ hown (hw _ (List.mem_of_getElem? (i := 0) rfl)) (hw _ (List.mem_of_getElem? (i := 1) rfl)) (hw _ (List.mem_of_getElem? (i := 2) rfl)) e0 (g := (mkF m 53 #[.val (.long va), .second, .val (.long b0), .second, .val (.long c0), .second, .val (.long d0), .second, .val (.int fl), .val (.long vb), .second, .val (.long vc), .second, .val (.long vd), .second, .val (.int k), .unset, .unset, .unset, .unset] [])) rfl (hb hby at_53) (by decide) (by decide)
  obtain ⟨a, g1⟩ : ∃ z, z = h0.size := ⟨_, rfl⟩
  rw [← g1] at A1 D1 st1
  have ga : n0 ≤ a := Nat.le_trans Z0 (Nat.le_of_eq g1.symm)
  have Z1 : n0 ≤ h1.size := Nat.le_trans Z0 E1.1
  obtain ⟨_, _, ⟨T2, L2, k2, n2⟩, -, X2, ⟨Lc2, hQ2, l2, y2, z2⟩, st2⟩ := X1.specialBack hx (y := (⟨"com/example/intact_keys/intactkeys/check/KeySet", "<init>", "()V"⟩ : MethodName)) rfl hown (mvT hZ (hw _ (List.mem_of_getElem? (i := 3) rfl))) (mvT hZ (hw _ (List.mem_of_getElem? (i := 4) rfl))) (mvT hZ (hw _ (List.mem_of_getElem? (i := 5) rfl))) (by decide) (backOf (W := 1) (rm1 l Z a0 hw [] a h1 n0 Z1 A1 _ _ _ (D1 (Or.inl (hw _ (List.mem_of_getElem? (i := 11) rfl))) (ty := (.array .long)) (by decide)) (D1 (Or.inl (hw _ (List.mem_of_getElem? (i := 18) rfl))) (ty := .int) (by decide)) (D1 (Or.inl (hw _ (List.mem_of_getElem? (i := 46) rfl))) (ty := .int) (by decide)) (D1 (Or.inl (hw _ (List.mem_of_getElem? (i := 48) rfl))) (ty := .boolean) (by decide)) (D1 (Or.inr (hw _ (List.mem_of_getElem? (i := 39) rfl))) (ty := (.object "com/example/intact_keys/intactkeys/check/KeySet$Encoded")) (by decide)) ga) hZ (hw _ (List.mem_of_getElem? (i := 5) rfl)) (hw _ (List.mem_of_getElem? (i := 2) rfl)) (by decide) (by decide)) (g := (mkF m 57 #[.val (.long va), .second, .val (.long b0), .second, .val (.long c0), .second, .val (.long d0), .second, .val (.int fl), .val (.long vb), .second, .val (.long vc), .second, .val (.long vd), .second, .val (.int k), .unset, .unset, .unset, .unset] [(.ref a), (.ref a)])) rfl (by rw [hml]; rfl) (Steps.refl _) (a := a) (argsL := []) (rest := [(.ref a)]) (lenOf (show parseMethodDescriptor "()V" = some ⟨[], none⟩ from by decide +kernel) rfl) rfl (by show 2 * 0 + _ ≤ _; exact Nat.le_of_eq rfl) (hb hby at_57) (fun _ _ => ⟨rfl, e1, (by decide : 0 + 1 + 4 ≤ _), (by decide : 0 + 5 + 39 ≤ _)⟩)
  dsimp only [Pt.U, Pt.locs, Pt.cells, Pt.slots] at X2 l2 y2 z2 st2 hQ2
  subst l2 y2 z2
  obtain ⟨rfl, N2q, K2, t, gt, A2⟩ := hQ2
  have N2 := Fr.app N0 N2q
  have Z2 : n0 ≤ T2.heap.size := Nat.le_trans Z1 K2.1
  have R2 := own_R.start own_hs
  obtain ⟨T3, h3, L3, vs3, cn3, hz3, X3, e3, N3, Z3, A3, R3, st3⟩ := own_ad0 va b0 c0 d0 fl vb vc vd k a t [] (List.replicate 16 0) 0 0 X2 hx hZ hw hby hml hown rfl n0 Z2 N2 A2 R2 (by decide) ga gt
  have R3' : own_R own_hs (own_D1 k va) vs3 cn3 hz3 := R3
  obtain ⟨T4, h4, L4, vs4, cn4, hz4, X4, e4, N4, Z4, A4, R4, st4⟩ := own_ad1 va b0 c0 d0 fl vb vc vd k a t (own_D1 k va) vs3 cn3 hz3 X3 hx hZ hw hby hml hown e3 n0 Z3 N3 A3 R3' (Nat.le_trans (own_D1_le k va) (by decide)) ga gt
  have R4' : own_R own_hs (own_D2 k va vb) vs4 cn4 hz4 := R4
  obtain ⟨T5, h5, L5, vs5, cn5, hz5, X5, e5, N5, Z5, A5, R5, st5⟩ := own_ad2 va b0 c0 d0 fl vb vc vd k a t (own_D2 k va vb) vs4 cn4 hz4 X4 hx hZ hw hby hml hown e4 n0 Z4 N4 A4 R4' (Nat.le_trans (own_D2_le k va vb) (by decide)) ga gt
  have R5' : own_R own_hs (own_D3 k va vb vc) vs5 cn5 hz5 := R5
  obtain ⟨T6, h6, L6, vs6, cn6, hz6, X6, e6, N6, Z6, A6, R6, st6⟩ := own_ad3 va b0 c0 d0 fl vb vc vd k a t (own_D3 k va vb vc) vs5 cn5 hz5 X5 hx hZ hw hby hml hown e5 n0 Z5 N5 A5 R5' (Nat.le_trans (own_D3_le k va vb vc) (by decide)) ga gt
  have R6' : own_R own_hs (own_D4 k va vb vc vd) vs6 cn6 hz6 := R6
  obtain ⟨T7, X7, e7, st7⟩ := own_n_b119 va b0 c0 d0 fl vb vc vd k a 0 X6 hx hZ hw hby hml hown e6 (own_n_f119 va b0 c0 d0 fl vb vc vd k a 0) rfl
  rw [own_n_len] at st7
  have h16 : vs6.length = 16 := R6'.1.1
  have hcl := R6'.cnt_le own_hs
  have hDl := own_D4_le k va vb vc vd
  obtain ⟨nd, hmem, hlen⟩ := R6'.out own_hs
  obtain ⟨cq8, kq8, q8a, q8b, q8c⟩ := isOf hZ e7 A6.1
  obtain ⟨_, _, ⟨T8, L8, k8, n8⟩, -, X8, ⟨Lc8, hQ8, l8, y8, z8⟩, st8⟩ := X7.virtualBack hx (y := (⟨"com/example/intact_keys/intactkeys/check/KeySet", "packedValues", "()[J"⟩ : MethodName)) (z := (⟨"com/example/intact_keys/intactkeys/check/KeySet", "packedValues", "()[J"⟩ : MethodName)) hown (mvT hZ (hw _ (List.mem_of_getElem? (i := 40) rfl))) (mvT hZ (hw _ (List.mem_of_getElem? (i := 41) rfl))) (notFace_of_selects (args := #[]) (mvT hZ (hw _ (List.mem_of_getElem? (i := 43) rfl)))) (mvT hZ (hw _ (List.mem_of_getElem? (i := 43) rfl))) (mvT hZ (hw _ (List.mem_of_getElem? (i := 42) rfl))) (by decide) (backOf (W := 0) (rm5 l Z a0 hw [] a t vs6 cn6 hz6 h6 n0 Z6 A6 h16 R6'.2.1 (by omega)) hZ (hw _ (List.mem_of_getElem? (i := 44) rfl)) (hw _ (List.mem_of_getElem? (i := 2) rfl)) (by decide) (by decide)) q8a q8c (g := (mkF m 201 #[.val (.long va), .second, .val (.long b0), .second, .val (.long c0), .second, .val (.long d0), .second, .val (.int fl), .val (.long vb), .second, .val (.long vc), .second, .val (.long vd), .second, .val (.int k), .val (.ref a), .val (.int (own_D4 k va vb vc vd).length.toInt32), .unset, .unset] [(.ref a)])) rfl (by rw [hml]; rfl) (Steps.refl _) (argsL := []) (rest := []) (lenOf (show parseMethodDescriptor "()[J" = some ⟨[], (some (.array .long))⟩ from by decide +kernel) rfl) rfl (by show 2 * 0 + _ ≤ _; exact Nat.le_of_eq rfl) (hb hby at_201) (fun _ _ => ⟨rfl, e7, (by decide : 0 + 1 + 4 + 1 ≤ _), (by decide : 0 + 5 + 39 + 16 ≤ _)⟩)
  dsimp only [Pt.U, Pt.locs, Pt.cells, Pt.slots] at X8 l8 y8 z8 st8 hQ8
  subst l8 y8 z8
  obtain ⟨wv, rfl, N8q, J8, hs8⟩ := hQ8
  have N8 := Fr.app N6 N8q
  have Z8 : n0 ≤ T8.heap.size := Nat.le_trans Z6 hs8
  obtain ⟨cl, Ar, Sz, Hs⟩ := (show own_J Z T8.heap wv (own_out vs6 hz6) from J8)
  have hwl : (own_out vs6 hz6).length ≤ 4 := by rw [hlen]; exact hDl
  rw [hlen] at Sz
  obtain ⟨hm0, hm1, hm2, hm3⟩ := own_D4_mem k va vb vc vd
  obtain ⟨T9, L9, X9, e9, N9, st9⟩ := own_ck0 va b0 c0 d0 fl vb vc vd k a (own_D4 k va vb vc vd).length.toInt32 wv (own_out vs6 hz6) X8 hx hZ hw hby hml hown rfl n0 Z8 N8 J8 hwl nd (fun h => (hmem _).mpr (hm0 h))
  obtain ⟨T10, L10, X10, e10, N10, st10⟩ := own_ck1 va b0 c0 d0 fl vb vc vd k a (own_D4 k va vb vc vd).length.toInt32 wv (own_out vs6 hz6) X9 hx hZ hw hby hml hown e9 n0 Z8 N9 J8 hwl nd (fun h => (hmem _).mpr (hm1 h))
  obtain ⟨T11, L11, X11, e11, N11, st11⟩ := own_ck2 va b0 c0 d0 fl vb vc vd k a (own_D4 k va vb vc vd).length.toInt32 wv (own_out vs6 hz6) X10 hx hZ hw hby hml hown e10 n0 Z8 N10 J8 hwl nd (fun h => (hmem _).mpr (hm2 h))
  obtain ⟨T12, L12, X12, e12, N12, st12⟩ := own_ck3 va b0 c0 d0 fl vb vc vd k a (own_D4 k va vb vc vd).length.toInt32 wv (own_out vs6 hz6) X11 hx hZ hw hby hml hown e11 n0 Z8 N11 J8 hwl nd (fun h => (hmem _).mpr (hm3 h))
  obtain ⟨fs, hr, hrun, hended, hW, hsame⟩ := X12.leave (v := some (.int (1 : Int32))) (fun h => by rw [Bd.returns] at h; cases h)
  refine ⟨_, _, castTop (ef_0 m va b0 c0 d0 fl) ?_, hrun, hended, _, _, rfl, ?_, ⟨_, rfl⟩, hW, hsame.mono (by decide) (by decide)⟩
  · refine stb _ ?_
    refine stc _ ?_
    refine std _ ?_
    refine stk _ ?_
    show Steps p.tables e below (s₁.setTop (mkF m 53 #[.val (.long va), .second, .val (.long b0), .second, .val (.long c0), .second, .val (.long d0), .second, .val (.int fl), .val (.long vb), .second, .val (.long vc), .second, .val (.long vd), .second, .val (.int k), .unset, .unset, .unset, .unset] [])) _
    refine st1 _ ?_
    show Steps p.tables e below (T1.setTop (mkF m 56 #[.val (.long va), .second, .val (.long b0), .second, .val (.long c0), .second, .val (.long d0), .second, .val (.int fl), .val (.long vb), .second, .val (.long vc), .second, .val (.long vd), .second, .val (.int k), .unset, .unset, .unset, .unset] [(.ref a)])) _
    refine XS.dup X1.here hx rfl (hb hby at_56) rfl rfl ?_
    show Steps p.tables e below (T1.setTop (mkF m 57 #[.val (.long va), .second, .val (.long b0), .second, .val (.long c0), .second, .val (.long d0), .second, .val (.int fl), .val (.long vb), .second, .val (.long vc), .second, .val (.long vd), .second, .val (.int k), .unset, .unset, .unset, .unset] [(.ref a), (.ref a)])) _
    refine st2.trans ?_
    show Steps p.tables e below (T2.setTop (mkF m 60 #[.val (.long va), .second, .val (.long b0), .second, .val (.long c0), .second, .val (.long d0), .second, .val (.int fl), .val (.long vb), .second, .val (.long vc), .second, .val (.long vd), .second, .val (.int k), .unset, .unset, .unset, .unset] [(.ref a)])) _
    refine XS.astore X2.here hx rfl (hb hby at_60) rfl rfl (l' := #[.val (.long va), .second, .val (.long b0), .second, .val (.long c0), .second, .val (.long d0), .second, .val (.int fl), .val (.long vb), .second, .val (.long vc), .second, .val (.long vd), .second, .val (.int k), .val (.ref a), .unset, .unset, .unset]) rfl ?_
    refine st3 _ ?_
    refine st4 _ ?_
    refine st5 _ ?_
    refine st6 _ ?_
    show Steps p.tables e below (T6.setTop (mkF m 116 #[.val (.long va), .second, .val (.long b0), .second, .val (.long c0), .second, .val (.long d0), .second, .val (.int fl), .val (.long vb), .second, .val (.long vc), .second, .val (.long vd), .second, .val (.int k), .val (.ref a), .unset, .unset, .unset] [])) _
    refine XS.iconst X6.here hx rfl (hb hby at_116) ?_
    show Steps p.tables e below (T6.setTop (mkF m 117 #[.val (.long va), .second, .val (.long b0), .second, .val (.long c0), .second, .val (.long d0), .second, .val (.int fl), .val (.long vb), .second, .val (.long vc), .second, .val (.long vd), .second, .val (.int k), .val (.ref a), .unset, .unset, .unset] [(.int (0 : Int32))])) _
    refine XS.istore X6.here hx rfl (hb hby at_117) rfl (l' := #[.val (.long va), .second, .val (.long b0), .second, .val (.long c0), .second, .val (.long d0), .second, .val (.int fl), .val (.long vb), .second, .val (.long vc), .second, .val (.long vd), .second, .val (.int k), .val (.ref a), .val (.int (0 : Int32)), .unset, .unset]) rfl ?_
    refine st7 _ ?_
    show Steps p.tables e below (T7.setTop (mkF m 199 #[.val (.long va), .second, .val (.long b0), .second, .val (.long c0), .second, .val (.long d0), .second, .val (.int fl), .val (.long vb), .second, .val (.long vc), .second, .val (.long vd), .second, .val (.int k), .val (.ref a), .val (.int (own_D4 k va vb vc vd).length.toInt32), .unset, .unset] [])) _
    refine XS.aload X7.here hx rfl (hb hby at_199) rfl rfl ?_
    show Steps p.tables e below (T7.setTop (mkF m 201 #[.val (.long va), .second, .val (.long b0), .second, .val (.long c0), .second, .val (.long d0), .second, .val (.int fl), .val (.long vb), .second, .val (.long vc), .second, .val (.long vd), .second, .val (.int k), .val (.ref a), .val (.int (own_D4 k va vb vc vd).length.toInt32), .unset, .unset] [(.ref a)])) _
    refine st8.trans ?_
    show Steps p.tables e below (T8.setTop (mkF m 204 #[.val (.long va), .second, .val (.long b0), .second, .val (.long c0), .second, .val (.long d0), .second, .val (.int fl), .val (.long vb), .second, .val (.long vc), .second, .val (.long vd), .second, .val (.int k), .val (.ref a), .val (.int (own_D4 k va vb vc vd).length.toInt32), .unset, .unset] [(.ref wv)])) _
    refine XS.astore X8.here hx rfl (hb hby at_204) rfl rfl (l' := #[.val (.long va), .second, .val (.long b0), .second, .val (.long c0), .second, .val (.long d0), .second, .val (.int fl), .val (.long vb), .second, .val (.long vc), .second, .val (.long vd), .second, .val (.int k), .val (.ref a), .val (.int (own_D4 k va vb vc vd).length.toInt32), .val (.ref wv), .unset]) rfl ?_
    show Steps p.tables e below (T8.setTop (mkF m 206 #[.val (.long va), .second, .val (.long b0), .second, .val (.long c0), .second, .val (.long d0), .second, .val (.int fl), .val (.long vb), .second, .val (.long vc), .second, .val (.long vd), .second, .val (.int k), .val (.ref a), .val (.int (own_D4 k va vb vc vd).length.toInt32), .val (.ref wv), .unset] [])) _
    refine XS.aload X8.here hx rfl (hb hby at_206) rfl rfl ?_
    show Steps p.tables e below (T8.setTop (mkF m 208 #[.val (.long va), .second, .val (.long b0), .second, .val (.long c0), .second, .val (.long d0), .second, .val (.int fl), .val (.long vb), .second, .val (.long vc), .second, .val (.long vd), .second, .val (.int k), .val (.ref a), .val (.int (own_D4 k va vb vc vd).length.toInt32), .val (.ref wv), .unset] [(.ref wv)])) _
    refine X8.arraylength hx Ar.1 (State.isArrayOf_alike hZ.alike Ar.2.1) (g := (mkF m 208 #[.val (.long va), .second, .val (.long b0), .second, .val (.long c0), .second, .val (.long d0), .second, .val (.int fl), .val (.long vb), .second, .val (.long vc), .second, .val (.long vd), .second, .val (.int k), .val (.ref a), .val (.int (own_D4 k va vb vc vd).length.toInt32), .val (.ref wv), .unset] [(.ref wv)])) rfl rfl (hb hby at_208) _ ?_
    rw [Sz]
    show Steps p.tables e below (T8.setTop (mkF m 209 #[.val (.long va), .second, .val (.long b0), .second, .val (.long c0), .second, .val (.long d0), .second, .val (.int fl), .val (.long vb), .second, .val (.long vc), .second, .val (.long vd), .second, .val (.int k), .val (.ref a), .val (.int (own_D4 k va vb vc vd).length.toInt32), .val (.ref wv), .unset] [(.int (own_D4 k va vb vc vd).length.toInt32)])) _
    refine XS.iload X8.here hx rfl (hb hby at_209) rfl ?_
    show Steps p.tables e below (T8.setTop (mkF m 211 #[.val (.long va), .second, .val (.long b0), .second, .val (.long c0), .second, .val (.long d0), .second, .val (.int fl), .val (.long vb), .second, .val (.long vc), .second, .val (.long vd), .second, .val (.int k), .val (.ref a), .val (.int (own_D4 k va vb vc vd).length.toInt32), .val (.ref wv), .unset] [(.int (own_D4 k va vb vc vd).length.toInt32), (.int (own_D4 k va vb vc vd).length.toInt32)])) _
    refine XS.icmpYes X8.here hx rfl (pc0 := 211) (pc' := 216) rfl (hb hby at_211) rfl (teq (rfl : (own_D4 k va vb vc vd).length.toInt32 = (own_D4 k va vb vc vd).length.toInt32)).1 (by decide) (by decide) ?_
    show Steps p.tables e below (T8.setTop (mkF m 216 #[.val (.long va), .second, .val (.long b0), .second, .val (.long c0), .second, .val (.long d0), .second, .val (.int fl), .val (.long vb), .second, .val (.long vc), .second, .val (.long vd), .second, .val (.int k), .val (.ref a), .val (.int (own_D4 k va vb vc vd).length.toInt32), .val (.ref wv), .unset] [])) _
    refine XS.iconst X8.here hx rfl (hb hby at_216) ?_
    show Steps p.tables e below (T8.setTop (mkF m 217 #[.val (.long va), .second, .val (.long b0), .second, .val (.long c0), .second, .val (.long d0), .second, .val (.int fl), .val (.long vb), .second, .val (.long vc), .second, .val (.long vd), .second, .val (.int k), .val (.ref a), .val (.int (own_D4 k va vb vc vd).length.toInt32), .val (.ref wv), .unset] [(.int (1 : Int32))])) _
    refine XS.istore X8.here hx rfl (hb hby at_217) rfl (l' := #[.val (.long va), .second, .val (.long b0), .second, .val (.long c0), .second, .val (.long d0), .second, .val (.int fl), .val (.long vb), .second, .val (.long vc), .second, .val (.long vd), .second, .val (.int k), .val (.ref a), .val (.int (own_D4 k va vb vc vd).length.toInt32), .val (.ref wv), .val (.int (1 : Int32))]) rfl ?_
    refine st9 _ ?_
    refine st10 _ ?_
    refine st11 _ ?_
    refine st12 _ ?_
    show Steps p.tables e below (T12.setTop (mkF m 333 #[.val (.long va), .second, .val (.long b0), .second, .val (.long c0), .second, .val (.long d0), .second, .val (.int fl), .val (.long vb), .second, .val (.long vc), .second, .val (.long vd), .second, .val (.int k), .val (.ref a), .val (.int (own_D4 k va vb vc vd).length.toInt32), .val (.ref wv), .val (.int (1 : Int32))] [])) _
    refine XS.iload X12.here hx rfl (hb hby at_333) rfl ?_
    show Steps p.tables e below (T12.setTop (mkF m 335 #[.val (.long va), .second, .val (.long b0), .second, .val (.long c0), .second, .val (.long d0), .second, .val (.int fl), .val (.long vb), .second, .val (.long vc), .second, .val (.long vd), .second, .val (.int k), .val (.ref a), .val (.int (own_D4 k va vb vc vd).length.toInt32), .val (.ref wv), .val (.int (1 : Int32))] [(.int (1 : Int32))])) _
    exact retN X12 hx (t := .boolean) Bd.returns (by simp) (hb hby at_335) hr
  · exact ⟨rfl, N12⟩
set_option maxRecDepth 65536 in
set_option maxHeartbeats 40000000 in
theorem comes_1 {Post : Tables → Env → Array Value → State → Outcome → State → Prop} (hpost : ∀ tb e args s v u, (limb_1_1.after args s (.returned v) u = true ∧ limb_1_2.after args s (.returned v) u = true ∧ True) → FrameEnd s (.returned v) u (Jvm.fieldLocs frame_1_writes args s ++ Jvm.arrayLocs frame_1_arrays args s ++ Jvm.staticLocs frame_1_statics s) 24 192 → Post tb e args s (.returned v) u) :
    ArmFor flags0 classFile x code maxLocals ret World_1 tables_1 room_1 Calls_1 rest_1 Pre_1 Post := by
  intro l hfl _ _ p e ha hc hk s m args below hf hA hF happ hP
  obtain ⟨hcalls, hrest, hpre⟩ := hP
  obtain ⟨-, -, -, hnamed, -, -, -, hat⟩ := (Spec.applies_iff hf).mp happ
  obtain ⟨hg, hn⟩ := and_e (Cond.before_iff.mp (show (Jvm.Cond.and given_1 narrow_1).before args s = true from hpre))
  obtain ⟨gc, gr0⟩ := and_e hg
  obtain ⟨gv0, gr1⟩ := and_e gr0
  obtain ⟨gv1, gr2⟩ := and_e gr1
  obtain ⟨gv2, gr3⟩ := and_e gr2
  obtain ⟨gv3, gr4⟩ := and_e gr3
  obtain ⟨w0, w1, w2, w3, w4, rfl⟩ : ∃ w0 w1 w2 w3 w4 : Value, args = #[w0, w1, w2, w3, w4] := by
    have hs : args.size = 5 := by simpa [Cond.value, given_1] using gc
    obtain ⟨L⟩ := args
    match L, hs with
    | [w0, w1, w2, w3, w4], _ => exact ⟨w0, w1, w2, w3, w4, rfl⟩
  have hw := fun d (hd : d ∈ tables_1) => atoms_spec (ws := Jvm.Cond.code x code maxLocals ret :: tables_1) hat d (List.mem_cons_of_mem _ hd)
  have hfit : Fit s := fun {y c} hc i hi => by
    obtain ⟨ha, rfl⟩ := Array.getElem?_eq_some_iff.mp hc
    have q := List.all_eq_true.mp ((Array.all_eq_true_iff_forall_mem.mp hF) _ (Array.getElem_mem ha)) i (List.mem_range.mpr hi)
    simpa [Array.getElem?_eq_getElem hi] using q
  obtain ⟨i0, ei0⟩ := isL_v gv0
  obtain rfl : w0 = (.long i0) := Option.some.inj ei0
  obtain ⟨i1, ei1⟩ := isL_v gv1
  obtain rfl : w1 = (.long i1) := Option.some.inj ei1
  obtain ⟨i2, ei2⟩ := isL_v gv2
  obtain rfl : w2 = (.long i2) := Option.some.inj ei2
  obtain ⟨i3, ei3⟩ := isL_v gv3
  obtain rfl : w3 = (.long i3) := Option.some.inj ei3
  obtain ⟨i4, ei4⟩ := is_v gr4
  obtain rfl : w4 = (.int i4) := Option.some.inj ei4
  obtain ⟨n, o, h1, h2, h3, _, L, rfl, ⟨rfl, N⟩, hq⟩ := rm0 l s _ hw tables_1 i0 i1 i2 i3 i4 s.heap s.heap.size (Nat.le_refl _)  p e ha hc hk s m _ below hf ((Spec.applies_iff_loose hf).mp happ).1 ⟨rfl, State.Warmed39.refl s, rfl⟩ trivial
  refine ⟨n, _, h1, h2, h3, hpost _ _ _ _ _ _ ⟨Cond.after_iff.mpr rfl, Cond.after_iff.mpr (eq_i res_at (Term.int_eval (1)) rfl), trivial⟩ ⟨hq.1, hq.2.1, (hq.2.2.sift fun y hy => Or.inr (N y hy)).mono (by decide) (by decide)⟩⟩
theorem main_1_1 : Claimed_1_1 := comes_1 fun _ _ _ _ _ _ h hF => ⟨h.1, hF⟩
theorem main_1_2 : Claimed_1_2 := comes_1 fun _ _ _ _ _ _ h hF => ⟨h.2.1, hF⟩
end Jvm.Pilot.@@N@@
namespace Jvm.Pilot.@@N@@
open Jvm Jvm.ClassFile Sem Op Lib Jvm.Free Jvm.Stand Jvm.Pilot.@@N@@.Jvm.D
/-! MADE BY PROGRAM (witnessworld.py) out of the Statement's table words and the real class files: 17 classes; the members and pool entries that the words name. The judged class is class 1, her method 2. -/
namespace start1
open Jvm.ClassFile
def u (s : String) : CpInfo := .utf8 (stringToUtf16 s)
/-- a pool by its gaps: so many unusable entries, then the entry; so many at the end -/
def gap : Nat → List CpInfo → List CpInfo
  | 0, r => r
  | n + 1, r => .unusable :: gap n r
def poolList (es : List (Nat × CpInfo)) (last : Nat) : List CpInfo := es.foldr (fun e r => gap e.1 (e.2 :: r)) (gap last [])
def pool (es : List (Nat × CpInfo)) (last : Nat) : Array CpInfo := ⟨poolList es last⟩
def fileOf (pool : Array CpInfo) (this : Nat) (attrs : Array Attribute := #[]) (ms : Array MethodInfo := #[]) (fl : Nat := 33) (sup : Nat := 0) (ifs : Array Nat := #[]) (fds : Array FieldInfo := #[]) : ClassFile where
  minorVersion := 0
  majorVersion := 65
  constantPool := pool
  accessFlags := fl
  thisClass := this
  superClass := sup
  interfaces := ifs
  fields := fds
  methods := ms
  attributes := attrs
def plain (name : String) (sup : Option ClassId) : Class where
  name := name
  kind := .ordinary
  loader := none
  accessFlags := 33
  super := sup
  interfaces := #[]
  cf := none
  fields := #[]
  methods := #[]
  instanceTypes := #[]
  staticTypes := #[]
  resolved := #[]
  callSites := []
  init := .initialized
  statics := none
  mirror := none

def pool0 : Array CpInfo := pool [(5, u "<init>"), (0, u "()V"), (1, .class_ 10), (1, u "java/lang/Object")] 113

def k0c0 : Code := { maxStack := 0, maxLocals := 1, code := object_method_1_code, exceptionTable := #[], attributes := #[] }
def k0m0 : Method := { name := "<init>", desc := "()V", sig := { parameters := [], returnType := none }, accessFlags := 1, code := some k0c0 }
/-- java/lang/Object -/
def k0 : Class := { plain "java/lang/Object" none with
  accessFlags := 33
  interfaces := #[]
  cf := some (fileOf pool0 8 #[] #[{ accessFlags := 1, nameIndex := 5, descriptorIndex := 6, attributes := #[] }] 33 0 #[] #[])
  fields := #[]
  methods := #[k0m0]
  instanceTypes := #[]
  staticTypes := #[]
  resolved := Array.replicate 124 none
  statics := none }

def pool1 : Array CpInfo := pool [(2, .class_ 4), (0, .nameAndType 5 6), (0, u "java/lang/Object"), (0, u "<init>"), (0, u "()V"), (0, .class_ 8), (0, u "com/example/intact_keys/intactkeys/check/KeySet"), (0, .methodref 7 3), (0, .methodref 7 11), (0, .nameAndType 12 13), (0, u "addPacked"), (0, u "(J)Z"), (0, .methodref 7 15), (0, .nameAndType 16 17), (0, u "packedValues"), (0, u "()[J"), (0, .methodref 19 20), (0, .class_ 21), (0, .nameAndType 22 23), (0, u "com/example/intact_keys/intactkeys/check/KeySetPackedValuesPinLaw"), (0, u "count"), (0, u "([JJ)I"), (3, u "law"), (0, u "(JJJJI)Z")] 4

def k1m0 : Method := { name := "<init>", desc := "()V", sig := { parameters := [], returnType := none }, accessFlags := 2, code := none }
def k1c1 : Code := { maxStack := 4, maxLocals := 4, code := method_2_code, exceptionTable := #[], attributes := #[] }
def k1m1 : Method := { name := "count", desc := "([JJ)I", sig := { parameters := [(.array .long), .long], returnType := some .int }, accessFlags := 10, code := some k1c1 }
def k1c2 : Code := { maxStack := 4, maxLocals := 20, code := code, exceptionTable := #[], attributes := #[] }
def k1m2 : Method := { name := "law", desc := "(JJJJI)Z", sig := { parameters := [.long, .long, .long, .long, .int], returnType := some .boolean }, accessFlags := 9, code := some k1c2 }
/-- com/example/intact_keys/intactkeys/check/KeySetPackedValuesPinLaw -/
def k1 : Class := { plain "com/example/intact_keys/intactkeys/check/KeySetPackedValuesPinLaw" (some 0) with
  accessFlags := 49
  interfaces := #[]
  cf := some (fileOf pool1 19 #[] #[{ accessFlags := 2, nameIndex := 5, descriptorIndex := 6, attributes := #[] }, { accessFlags := 10, nameIndex := 22, descriptorIndex := 23, attributes := #[] }, { accessFlags := 9, nameIndex := 27, descriptorIndex := 28, attributes := #[] }] 49 2 #[] #[])
  fields := #[]
  methods := #[k1m0, k1m1, k1m2]
  instanceTypes := #[]
  staticTypes := #[]
  resolved := Array.replicate 33 none
  statics := none }

def pool2 : Array CpInfo := pool [(1, .methodref 2 3), (0, .class_ 4), (0, .nameAndType 5 6), (0, u "java/lang/Object"), (0, u "<init>"), (0, u "()V"), (0, .class_ 8), (0, u "com/example/intact_keys/intactkeys/check/KeySet"), (0, .fieldref 7 10), (0, .nameAndType 11 12), (0, u "slots"), (0, u "[J"), (0, .methodref 14 15), (0, .class_ 16), (0, .nameAndType 17 18), (0, u "java/lang/Integer"), (0, u "numberOfTrailingZeros"), (0, u "(I)I"), (0, .fieldref 7 20), (0, .nameAndType 21 22), (0, u "bits"), (0, u "I"), (0, .class_ 24), (0, u "com/example/intact_keys/intactkeys/check/KeySet$Encoded"), (0, .methodref 23 3), (0, .fieldref 7 27), (0, .nameAndType 28 29), (0, u "unpacked"), (0, u "Lcom/example/intact_keys/intactkeys/check/KeySet$Encoded;"), (12, u "addPacked"), (0, u "(J)Z"), (4, .fieldref 7 49), (0, .nameAndType 50 51), (0, u "holdsZero"), (0, u "Z"), (0, .methodref 7 53), (0, .nameAndType 54 43), (0, u "addToTable"), (6, .methodref 7 62), (0, .nameAndType 63 64), (0, u "slotOf"), (0, u "(J)I"), (12, .fieldref 7 78), (0, .nameAndType 79 22), (0, u "packedCount"), (11, .methodref 7 92), (0, .nameAndType 93 94), (0, u "isOverfull"), (0, u "(I[J)Z"), (11, .long 11400714819323198485), (13, u "FIRST_CAPACITY"), (2, u "FREE"), (0, u "J"), (2, u "SPREAD"), (6, u "packedValues"), (0, u "()[J")] 11

def k2c0 : Code := { maxStack := 3, maxLocals := 1, code := prog_48_method_1_code, exceptionTable := #[], attributes := #[] }
def k2m0 : Method := { name := "<init>", desc := "()V", sig := { parameters := [], returnType := none }, accessFlags := 0, code := some k2c0 }
def k2c1 : Code := { maxStack := 4, maxLocals := 4, code := prog_48_method_3_code, exceptionTable := #[], attributes := #[] }
def k2m1 : Method := { name := "addPacked", desc := "(J)Z", sig := { parameters := [.long], returnType := some .boolean }, accessFlags := 0, code := some k2c1 }
def k2c2 : Code := { maxStack := 4, maxLocals := 8, code := prog_48_method_8_code, exceptionTable := #[], attributes := #[] }
def k2m2 : Method := { name := "packedValues", desc := "()[J", sig := { parameters := [], returnType := some (.array .long) }, accessFlags := 0, code := some k2c2 }
def k2c3 : Code := { maxStack := 4, maxLocals := 4, code := prog_48_method_13_code, exceptionTable := #[], attributes := #[] }
def k2m3 : Method := { name := "addToTable", desc := "(J)Z", sig := { parameters := [.long], returnType := some .boolean }, accessFlags := 2, code := some k2c3 }
def k2c4 : Code := { maxStack := 4, maxLocals := 5, code := prog_48_method_14_code, exceptionTable := #[], attributes := #[] }
def k2m4 : Method := { name := "slotOf", desc := "(J)I", sig := { parameters := [.long], returnType := some .int }, accessFlags := 2, code := some k2c4 }
def k2c5 : Code := { maxStack := 3, maxLocals := 2, code := prog_48_method_16_code, exceptionTable := #[], attributes := #[] }
def k2m5 : Method := { name := "isOverfull", desc := "(I[J)Z", sig := { parameters := [.int, (.array .long)], returnType := some .boolean }, accessFlags := 10, code := some k2c5 }
/-- com/example/intact_keys/intactkeys/check/KeySet -/
def k2 : Class := { plain "com/example/intact_keys/intactkeys/check/KeySet" (some 0) with
  accessFlags := 48
  interfaces := #[]
  cf := some (fileOf pool2 7 #[.nestMembers #[23]] #[{ accessFlags := 0, nameIndex := 5, descriptorIndex := 6, attributes := #[] }, { accessFlags := 0, nameIndex := 42, descriptorIndex := 43, attributes := #[] }, { accessFlags := 0, nameIndex := 134, descriptorIndex := 135, attributes := #[] }, { accessFlags := 2, nameIndex := 54, descriptorIndex := 43, attributes := #[] }, { accessFlags := 2, nameIndex := 63, descriptorIndex := 64, attributes := #[] }, { accessFlags := 10, nameIndex := 93, descriptorIndex := 94, attributes := #[] }] 48 2 #[] #[{ accessFlags := 26, nameIndex := 120, descriptorIndex := 22, attributes := #[] }, { accessFlags := 26, nameIndex := 123, descriptorIndex := 124, attributes := #[] }, { accessFlags := 26, nameIndex := 127, descriptorIndex := 124, attributes := #[] }, { accessFlags := 2, nameIndex := 11, descriptorIndex := 12, attributes := #[] }, { accessFlags := 2, nameIndex := 21, descriptorIndex := 22, attributes := #[] }, { accessFlags := 2, nameIndex := 79, descriptorIndex := 22, attributes := #[] }, { accessFlags := 2, nameIndex := 50, descriptorIndex := 51, attributes := #[] }, { accessFlags := 18, nameIndex := 28, descriptorIndex := 29, attributes := #[] }])
  fields := #[{ name := "FIRST_CAPACITY", type := .int, accessFlags := 26, slot := 0, constantValue := 0 }, { name := "FREE", type := .long, accessFlags := 26, slot := 1, constantValue := 0 }, { name := "SPREAD", type := .long, accessFlags := 26, slot := 2, constantValue := 0 }, { name := "slots", type := (.array .long), accessFlags := 2, slot := 0, constantValue := 0 }, { name := "bits", type := .int, accessFlags := 2, slot := 1, constantValue := 0 }, { name := "packedCount", type := .int, accessFlags := 2, slot := 2, constantValue := 0 }, { name := "holdsZero", type := .boolean, accessFlags := 2, slot := 3, constantValue := 0 }, { name := "unpacked", type := (.object "com/example/intact_keys/intactkeys/check/KeySet$Encoded"), accessFlags := 18, slot := 4, constantValue := 0 }]
  methods := #[k2m0, k2m1, k2m2, k2m3, k2m4, k2m5]
  instanceTypes := #[(.array .long), .int, .int, .boolean, (.object "com/example/intact_keys/intactkeys/check/KeySet$Encoded")]
  staticTypes := #[.int, .long, .long]
  resolved := ((Array.replicate 147 none).setIfInBounds 23 (some (.cls 9))).setIfInBounds 25 (some (.method ⟨9, 0⟩))
  statics := none }

def pool3 : Array CpInfo := pool [(1, .class_ 2), (0, u "java/io/Serializable"), (0, .class_ 4), (0, u "java/lang/Object")] 2

/-- java/io/Serializable -/
def k3 : Class := { plain "java/io/Serializable" (some 0) with
  accessFlags := 1537
  interfaces := #[]
  cf := some (fileOf pool3 1 #[] #[] 1537 3 #[] #[])
  fields := #[]
  methods := #[]
  instanceTypes := #[]
  staticTypes := #[]
  resolved := Array.replicate 7 none
  statics := none }

def pool4 : Array CpInfo := pool [(2, .class_ 4), (1, u "java/lang/Object"), (0, u "<init>"), (0, u "()V"), (1, .class_ 10), (1, u "java/lang/Number"), (2, .class_ 14), (0, u "java/io/Serializable"), (0, u "serialVersionUID"), (0, u "J")] 20

def k4m0 : Method := { name := "<init>", desc := "()V", sig := { parameters := [], returnType := none }, accessFlags := 1, code := none }
/-- java/lang/Number -/
def k4 : Class := { plain "java/lang/Number" (some 0) with
  accessFlags := 1057
  interfaces := #[3]
  cf := some (fileOf pool4 8 #[] #[{ accessFlags := 1, nameIndex := 5, descriptorIndex := 6, attributes := #[] }] 1057 2 #[13] #[{ accessFlags := 26, nameIndex := 15, descriptorIndex := 16, attributes := #[] }])
  fields := #[{ name := "serialVersionUID", type := .long, accessFlags := 26, slot := 0, constantValue := 0 }]
  methods := #[k4m0]
  instanceTypes := #[]
  staticTypes := #[.long]
  resolved := Array.replicate 37 none
  statics := none }

def pool5 : Array CpInfo := pool [(1, .class_ 2), (0, u "java/lang/Comparable"), (0, .class_ 4), (0, u "java/lang/Object")] 7

/-- java/lang/Comparable -/
def k5 : Class := { plain "java/lang/Comparable" (some 0) with
  accessFlags := 1537
  interfaces := #[]
  cf := some (fileOf pool5 1 #[] #[] 1537 3 #[] #[])
  fields := #[]
  methods := #[]
  instanceTypes := #[]
  staticTypes := #[]
  resolved := Array.replicate 12 none
  statics := none }

def pool6 : Array CpInfo := pool [(1, .class_ 2), (0, u "java/lang/constant/Constable"), (0, .class_ 4), (0, u "java/lang/Object")] 6

/-- java/lang/constant/Constable -/
def k6 : Class := { plain "java/lang/constant/Constable" (some 0) with
  accessFlags := 1537
  interfaces := #[]
  cf := some (fileOf pool6 1 #[] #[] 1537 3 #[] #[])
  fields := #[]
  methods := #[]
  instanceTypes := #[]
  staticTypes := #[]
  resolved := Array.replicate 11 none
  statics := none }

def pool7 : Array CpInfo := pool [(1, .class_ 2), (0, u "java/lang/constant/ConstantDesc"), (0, .class_ 4), (0, u "java/lang/Object")] 32

/-- java/lang/constant/ConstantDesc -/
def k7 : Class := { plain "java/lang/constant/ConstantDesc" (some 0) with
  accessFlags := 1537
  interfaces := #[]
  cf := some (fileOf pool7 1 #[] #[] 1537 3 #[] #[])
  fields := #[]
  methods := #[]
  instanceTypes := #[]
  staticTypes := #[]
  resolved := Array.replicate 37 none
  statics := none }

def pool8 : Array CpInfo := pool [(1, .class_ 2), (0, u "java/lang/Integer"), (16, u "digits"), (0, u "[C"), (33, u "(I)I"), (30, u "DigitOnes"), (0, u "[B"), (2, u "DigitTens"), (99, .class_ 190), (0, u "java/lang/Integer$IntegerCache"), (3, u "I"), (8, .class_ 204), (0, u "java/lang/Number"), (2, u "value"), (56, .integer 65536), (37, u "TYPE"), (0, u "Ljava/lang/Class;"), (0, .class_ 305), (0, u "java/lang/Comparable"), (0, .class_ 307), (0, u "java/lang/constant/Constable"), (0, .class_ 309), (0, u "java/lang/constant/ConstantDesc"), (0, u "MIN_VALUE"), (1, u "MAX_VALUE"), (3, u "SIZE"), (1, u "BYTES"), (1, u "serialVersionUID"), (0, u "J"), (84, u "numberOfTrailingZeros")] 46

def k8c0 : Code := { maxStack := 3, maxLocals := 2, code := jdk_33_method_48_code, exceptionTable := #[], attributes := #[] }
def k8m0 : Method := { name := "numberOfTrailingZeros", desc := "(I)I", sig := { parameters := [.int], returnType := some .int }, accessFlags := 9, code := some k8c0 }
/-- java/lang/Integer -/
def k8 : Class := { plain "java/lang/Integer" (some 4) with
  accessFlags := 49
  interfaces := #[5, 6, 7]
  cf := some (fileOf pool8 1 #[.nestMembers #[189]] #[{ accessFlags := 9, nameIndex := 406, descriptorIndex := 54, attributes := #[] }] 49 203 #[304, 306, 308] #[{ accessFlags := 25, nameIndex := 310, descriptorIndex := 194, attributes := #[] }, { accessFlags := 25, nameIndex := 312, descriptorIndex := 194, attributes := #[] }, { accessFlags := 25, nameIndex := 302, descriptorIndex := 303, attributes := #[] }, { accessFlags := 24, nameIndex := 19, descriptorIndex := 20, attributes := #[] }, { accessFlags := 24, nameIndex := 89, descriptorIndex := 86, attributes := #[] }, { accessFlags := 24, nameIndex := 85, descriptorIndex := 86, attributes := #[] }, { accessFlags := 18, nameIndex := 207, descriptorIndex := 194, attributes := #[] }, { accessFlags := 25, nameIndex := 316, descriptorIndex := 194, attributes := #[] }, { accessFlags := 25, nameIndex := 318, descriptorIndex := 194, attributes := #[] }, { accessFlags := 26, nameIndex := 320, descriptorIndex := 321, attributes := #[] }])
  fields := #[{ name := "MIN_VALUE", type := .int, accessFlags := 25, slot := 0, constantValue := 0 }, { name := "MAX_VALUE", type := .int, accessFlags := 25, slot := 1, constantValue := 0 }, { name := "TYPE", type := (.object "java/lang/Class"), accessFlags := 25, slot := 2, constantValue := 0 }, { name := "digits", type := (.array .char), accessFlags := 24, slot := 3, constantValue := 0 }, { name := "DigitTens", type := (.array .byte), accessFlags := 24, slot := 4, constantValue := 0 }, { name := "DigitOnes", type := (.array .byte), accessFlags := 24, slot := 5, constantValue := 0 }, { name := "value", type := .int, accessFlags := 18, slot := 0, constantValue := 0 }, { name := "SIZE", type := .int, accessFlags := 25, slot := 6, constantValue := 0 }, { name := "BYTES", type := .int, accessFlags := 25, slot := 7, constantValue := 0 }, { name := "serialVersionUID", type := .long, accessFlags := 26, slot := 8, constantValue := 0 }]
  methods := #[k8m0]
  instanceTypes := #[.int]
  staticTypes := #[.int, .int, (.object "java/lang/Class"), (.array .char), (.array .byte), (.array .byte), .int, .int, .long]
  resolved := Array.replicate 453 none
  statics := none }

def pool9 : Array CpInfo := pool [(1, .class_ 2), (0, u "com/example/intact_keys/intactkeys/check/KeySet$Encoded"), (0, .class_ 4), (0, u "java/lang/Integer"), (0, .class_ 6), (0, u "com/example/intact_keys/intactkeys/check/KeySet"), (0, .methodref 8 9), (0, .class_ 10), (0, .nameAndType 11 12), (0, u "java/lang/Object"), (0, u "<init>"), (0, u "()V"), (0, .class_ 14), (0, u "[B"), (0, .fieldref 1 16), (0, .nameAndType 17 18), (0, u "pages"), (0, u "[[B"), (0, .long 8), (1, .fieldref 1 22), (0, .nameAndType 23 24), (0, u "end"), (0, u "J"), (0, .fieldref 1 26), (0, .nameAndType 27 28), (0, u "entries"), (0, u "[J"), (0, .methodref 3 30), (0, .nameAndType 31 32), (0, u "numberOfTrailingZeros"), (0, u "(I)I"), (0, .fieldref 1 34), (0, .nameAndType 35 36), (0, u "bits"), (0, u "I"), (44, u "count"), (2, u "pageCount"), (98, u "WORDS"), (0, u "Ljava/lang/invoke/VarHandle;"), (30, u "PAGE_SHIFT"), (2, u "PAGE_BYTES"), (0, u "UNIT_SHIFT"), (1, u "FIRST_PAGE_BYTES"), (1, u "MAX_END")] 22

def k9c0 : Code := { maxStack := 3, maxLocals := 1, code := prog_49_method_1_code, exceptionTable := #[], attributes := #[] }
def k9m0 : Method := { name := "<init>", desc := "()V", sig := { parameters := [], returnType := none }, accessFlags := 2, code := some k9c0 }
/-- com/example/intact_keys/intactkeys/check/KeySet$Encoded -/
def k9 : Class := { plain "com/example/intact_keys/intactkeys/check/KeySet$Encoded" (some 0) with
  accessFlags := 48
  interfaces := #[]
  cf := some (fileOf pool9 1 #[.nestHost 5] #[{ accessFlags := 2, nameIndex := 11, descriptorIndex := 12, attributes := #[] }] 48 8 #[] #[{ accessFlags := 26, nameIndex := 215, descriptorIndex := 36, attributes := #[] }, { accessFlags := 26, nameIndex := 218, descriptorIndex := 36, attributes := #[] }, { accessFlags := 26, nameIndex := 219, descriptorIndex := 36, attributes := #[] }, { accessFlags := 26, nameIndex := 221, descriptorIndex := 36, attributes := #[] }, { accessFlags := 26, nameIndex := 223, descriptorIndex := 24, attributes := #[] }, { accessFlags := 26, nameIndex := 183, descriptorIndex := 184, attributes := #[] }, { accessFlags := 2, nameIndex := 17, descriptorIndex := 18, attributes := #[] }, { accessFlags := 2, nameIndex := 84, descriptorIndex := 36, attributes := #[] }, { accessFlags := 2, nameIndex := 23, descriptorIndex := 24, attributes := #[] }, { accessFlags := 2, nameIndex := 27, descriptorIndex := 28, attributes := #[] }, { accessFlags := 2, nameIndex := 35, descriptorIndex := 36, attributes := #[] }, { accessFlags := 2, nameIndex := 81, descriptorIndex := 36, attributes := #[] }])
  fields := #[{ name := "PAGE_SHIFT", type := .int, accessFlags := 26, slot := 0, constantValue := 0 }, { name := "PAGE_BYTES", type := .int, accessFlags := 26, slot := 1, constantValue := 0 }, { name := "UNIT_SHIFT", type := .int, accessFlags := 26, slot := 2, constantValue := 0 }, { name := "FIRST_PAGE_BYTES", type := .int, accessFlags := 26, slot := 3, constantValue := 0 }, { name := "MAX_END", type := .long, accessFlags := 26, slot := 4, constantValue := 0 }, { name := "WORDS", type := (.object "java/lang/invoke/VarHandle"), accessFlags := 26, slot := 5, constantValue := 0 }, { name := "pages", type := (.array (.array .byte)), accessFlags := 2, slot := 0, constantValue := 0 }, { name := "pageCount", type := .int, accessFlags := 2, slot := 1, constantValue := 0 }, { name := "end", type := .long, accessFlags := 2, slot := 2, constantValue := 0 }, { name := "entries", type := (.array .long), accessFlags := 2, slot := 3, constantValue := 0 }, { name := "bits", type := .int, accessFlags := 2, slot := 4, constantValue := 0 }, { name := "count", type := .int, accessFlags := 2, slot := 5, constantValue := 0 }]
  methods := #[k9m0]
  instanceTypes := #[(.array (.array .byte)), .int, .long, (.array .long), .int, .int]
  staticTypes := #[.int, .int, .int, .int, .long, (.object "java/lang/invoke/VarHandle")]
  resolved := Array.replicate 246 none
  statics := none }

def pool10 : Array CpInfo := pool [(1, u "java/lang/Cloneable"), (0, .class_ 1), (0, u "java/lang/Object"), (0, .class_ 3)] 3

/-- java/lang/Cloneable -/
def k10 : Class := { plain "java/lang/Cloneable" (some 0) with
  accessFlags := 1537
  interfaces := #[]
  cf := some (fileOf pool10 2 #[] #[] 1537 4 #[] #[])
  fields := #[]
  methods := #[]
  instanceTypes := #[]
  staticTypes := #[]
  resolved := Array.replicate 8 none
  statics := none }

/-- the primitive byte -/
def k11 : Class := { plain "byte" none with kind := .primitive 'B', accessFlags := 0x411 }
/-- [B -/
def k12 : Class := { plain "[B" (some 0) with kind := .array 11 .byte, interfaces := #[10, 3], accessFlags := 1041 }

/-- the primitive int -/
def k13 : Class := { plain "int" none with kind := .primitive 'I', accessFlags := 0x411 }
/-- [I -/
def k14 : Class := { plain "[I" (some 0) with kind := .array 13 .int, interfaces := #[10, 3], accessFlags := 1041 }

/-- the primitive long -/
def k15 : Class := { plain "long" none with kind := .primitive 'J', accessFlags := 0x411 }
/-- [J -/
def k16 : Class := { plain "[J" (some 0) with kind := .array 15 .long, interfaces := #[10, 3], accessFlags := 1041 }

def heap : Heap := #[]
/-- [[B -/
def k17 : Class := { plain "[[B" (some 0) with kind := .array 12 (.array .byte), interfaces := #[10, 3], accessFlags := 1041 }
def classes : Array Class := #[k0, k1, k2, k3, k4, k5, k6, k7, k8, k9, k10, k11, k12, k13, k14, k15, k16, k17]
def interned : List (Array UInt16 × Addr) := []
def slotsUsed : Nat := 0
def theMethod : MethodId := ⟨1, 2⟩
def args0 : Array Value := #[.long 5, .long 3, .long 7, .long 3, .int 33]
def aboutOver (below : List Frame) : State where
  vm := { classes := classes, interned := interned.toArray }
  heap := heap
  slotsUsed := slotsUsed
  threads := #[{ frames := .invoking theMethod args0 :: below }]
def below0 : List Frame := [.native { method := ⟨0, 0⟩, args := #[] }]
def about1 : State := aboutOver below0
def p0 : Program := .bare "" "" ""
def e0 : Env := launch0.env 0 0 0
theorem w_frames : about1.frames = Frame.invoking theMethod args0 :: below0 := rfl
set_option maxRecDepth 65536 in
theorem w_args : argsFit about1.vm theMethod args0 = true := by decide +kernel
set_option maxRecDepth 65536 in
theorem w_heap : heapFits about1 = true := by decide +kernel
set_option maxRecDepth 65536 in
theorem w_runnable : about1.curStatus? = some .runnable := by decide +kernel
set_option maxRecDepth 65536 in
theorem w_alone : about1.alone = true := by decide +kernel
set_option maxRecDepth 65536 in
theorem w_named : about1.methodNamed? x = some theMethod := by decide +kernel
set_option maxRecDepth 65536 in
theorem w_hears : about1.hears theMethod below0 = true := by decide +kernel
set_option maxRecDepth 65536 in
theorem w_ripe : about1.ripe theMethod args0 below0 = true := by decide +kernel
theorem w_running : about1.status = .running := rfl
set_option maxRecDepth 65536 in
theorem w_room : about1.hasRoom e0.platform room_1 = true :=
  launch0.hasRoom_least _ room_1 (by decide +kernel) (by decide +kernel) (by decide +kernel) (by decide +kernel) (by decide +kernel) (by decide +kernel)
theorem allAtoms_all (ts : List Jvm.Cond) (a : Array Jvm.Value) (st : Jvm.State) : (allAtoms ts).before a st = ts.all (fun c => c.before a st) := by
  induction ts with
  | nil => rfl
  | cons c t ih =>
    show (Jvm.Cond.and c (allAtoms t)).before a st = _
    rw [Jvm.Cond.before_and, ih, List.all_cons]
def words1 : List Jvm.Cond := Jvm.Cond.code x code maxLocals ret :: tables_1
/-- a 'code' word, met by the world's own term for the bytes: nothing is compared byte by byte -/
theorem code_word {y : MethodName} {bytes : ByteArray} {mx : Nat} {rt : Option FieldType} {a : Array Value} {s : State} {m : MethodId} {meth : Method} {c : Code} (h1 : s.methodNamed? y = some m) (h2 : s.vm.method? m = some meth) (h3 : meth.code = some c) (h4 : c.code = bytes)
    (h5 : (c.maxLocals == mx && c.exceptionTable.isEmpty && decide (c.maxStack ≤ mostOperands) && decide (meth.sig.returnType = rt) && !meth.locks && decide (parseMethodDescriptor y.desc = some meth.sig)) = true) : (Jvm.Cond.code y bytes mx rt).before a s = true := by
  simp only [Bool.and_eq_true, beq_iff_eq, Bool.not_eq_true', decide_eq_true_eq] at h5
  obtain ⟨⟨⟨⟨⟨g1, g2⟩, g3⟩, g4⟩, g5⟩, g6⟩ := h5
  simp [Cond.before, Cond.holds, Cond.value, h1, h2, h3, h4, g1, g2, g3, g4, g5, g6]
def isCode : Jvm.Cond → Bool
  | .code _ _ _ _ => true
  | _ => false
theorem all_split {L : List Jvm.Cond} {P : Jvm.Cond → Bool} (h1 : L.all (fun c => isCode c || P c) = true) (h2 : ∀ c ∈ L.filter isCode, P c = true) : L.all P = true := by
  refine List.all_eq_true.mpr fun c hc => ?_
  have h := List.all_eq_true.mp h1 c hc
  rcases Bool.eq_false_or_eq_true (isCode c) with hi | hi
  · exact h2 c (List.mem_filter.mpr ⟨hc, hi⟩)
  · simpa [hi] using h
set_option maxRecDepth 65536 in
theorem w_c0 : (Jvm.Cond.code x code maxLocals ret).before args0 about1 = true := code_word (m := ⟨1, 2⟩) (meth := k1m2) (c := k1c2) (by decide +kernel) rfl rfl rfl (by decide +kernel)
set_option maxRecDepth 65536 in
theorem w_c1 : (Jvm.Cond.code ({ cls := "com/example/intact_keys/intactkeys/check/KeySet", name := "<init>", desc := "()V" } : Jvm.MethodName) prog_48_method_1_code (1 : Nat) (Option.none : Option Jvm.ClassFile.FieldType)).before args0 about1 = true := code_word (m := ⟨2, 0⟩) (meth := k2m0) (c := k2c0) (by decide +kernel) rfl rfl rfl (by decide +kernel)
set_option maxRecDepth 65536 in
theorem w_c2 : (Jvm.Cond.code ({ cls := "java/lang/Object", name := "<init>", desc := "()V" } : Jvm.MethodName) object_method_1_code (1 : Nat) (Option.none : Option Jvm.ClassFile.FieldType)).before args0 about1 = true := code_word (m := ⟨0, 0⟩) (meth := k0m0) (c := k0c0) (by decide +kernel) rfl rfl rfl (by decide +kernel)
set_option maxRecDepth 65536 in
theorem w_c3 : (Jvm.Cond.code ({ cls := "java/lang/Integer", name := "numberOfTrailingZeros", desc := "(I)I" } : Jvm.MethodName) jdk_33_method_48_code (2 : Nat) (Option.some Jvm.ClassFile.FieldType.int)).before args0 about1 = true := code_word (m := ⟨8, 0⟩) (meth := k8m0) (c := k8c0) (by decide +kernel) rfl rfl rfl (by decide +kernel)
set_option maxRecDepth 65536 in
theorem w_c4 : (Jvm.Cond.code ({ cls := "com/example/intact_keys/intactkeys/check/KeySet$Encoded", name := "<init>", desc := "()V" } : Jvm.MethodName) prog_49_method_1_code (1 : Nat) (Option.none : Option Jvm.ClassFile.FieldType)).before args0 about1 = true := code_word (m := ⟨9, 0⟩) (meth := k9m0) (c := k9c0) (by decide +kernel) rfl rfl rfl (by decide +kernel)
set_option maxRecDepth 65536 in
theorem w_c5 : (Jvm.Cond.code ({ cls := "com/example/intact_keys/intactkeys/check/KeySet", name := "packedValues", desc := "()[J" } : Jvm.MethodName) prog_48_method_8_code (8 : Nat) (Option.some (Jvm.ClassFile.FieldType.array Jvm.ClassFile.FieldType.long))).before args0 about1 = true := code_word (m := ⟨2, 2⟩) (meth := k2m2) (c := k2c2) (by decide +kernel) rfl rfl rfl (by decide +kernel)
set_option maxRecDepth 65536 in
theorem w_c6 : (Jvm.Cond.code ({ cls := "com/example/intact_keys/intactkeys/check/KeySet", name := "addPacked", desc := "(J)Z" } : Jvm.MethodName) prog_48_method_3_code (4 : Nat) (Option.some Jvm.ClassFile.FieldType.boolean)).before args0 about1 = true := code_word (m := ⟨2, 1⟩) (meth := k2m1) (c := k2c1) (by decide +kernel) rfl rfl rfl (by decide +kernel)
set_option maxRecDepth 65536 in
theorem w_c7 : (Jvm.Cond.code ({ cls := "com/example/intact_keys/intactkeys/check/KeySet", name := "addToTable", desc := "(J)Z" } : Jvm.MethodName) prog_48_method_13_code (4 : Nat) (Option.some Jvm.ClassFile.FieldType.boolean)).before args0 about1 = true := code_word (m := ⟨2, 3⟩) (meth := k2m3) (c := k2c3) (by decide +kernel) rfl rfl rfl (by decide +kernel)
set_option maxRecDepth 65536 in
theorem w_c8 : (Jvm.Cond.code ({ cls := "com/example/intact_keys/intactkeys/check/KeySet", name := "slotOf", desc := "(J)I" } : Jvm.MethodName) prog_48_method_14_code (5 : Nat) (Option.some Jvm.ClassFile.FieldType.int)).before args0 about1 = true := code_word (m := ⟨2, 4⟩) (meth := k2m4) (c := k2c4) (by decide +kernel) rfl rfl rfl (by decide +kernel)
set_option maxRecDepth 65536 in
theorem w_c9 : (Jvm.Cond.code ({ cls := "com/example/intact_keys/intactkeys/check/KeySet", name := "isOverfull", desc := "(I[J)Z" } : Jvm.MethodName) prog_48_method_16_code (2 : Nat) (Option.some Jvm.ClassFile.FieldType.boolean)).before args0 about1 = true := code_word (m := ⟨2, 5⟩) (meth := k2m5) (c := k2c5) (by decide +kernel) rfl rfl rfl (by decide +kernel)
set_option maxRecDepth 65536 in
theorem w_c10 : (Jvm.Cond.code ({ cls := "com/example/intact_keys/intactkeys/check/KeySetPackedValuesPinLaw", name := "count", desc := "([JJ)I" } : Jvm.MethodName) method_2_code (4 : Nat) (Option.some Jvm.ClassFile.FieldType.int)).before args0 about1 = true := code_word (m := ⟨1, 1⟩) (meth := k1m1) (c := k1c1) (by decide +kernel) rfl rfl rfl (by decide +kernel)
def codes1 : List Jvm.Cond := [Jvm.Cond.code x code maxLocals ret, Jvm.Cond.code ({ cls := "com/example/intact_keys/intactkeys/check/KeySet", name := "<init>", desc := "()V" } : Jvm.MethodName) prog_48_method_1_code (1 : Nat) (Option.none : Option Jvm.ClassFile.FieldType), Jvm.Cond.code ({ cls := "java/lang/Object", name := "<init>", desc := "()V" } : Jvm.MethodName) object_method_1_code (1 : Nat) (Option.none : Option Jvm.ClassFile.FieldType), Jvm.Cond.code ({ cls := "java/lang/Integer", name := "numberOfTrailingZeros", desc := "(I)I" } : Jvm.MethodName) jdk_33_method_48_code (2 : Nat) (Option.some Jvm.ClassFile.FieldType.int), Jvm.Cond.code ({ cls := "com/example/intact_keys/intactkeys/check/KeySet$Encoded", name := "<init>", desc := "()V" } : Jvm.MethodName) prog_49_method_1_code (1 : Nat) (Option.none : Option Jvm.ClassFile.FieldType), Jvm.Cond.code ({ cls := "com/example/intact_keys/intactkeys/check/KeySet", name := "packedValues", desc := "()[J" } : Jvm.MethodName) prog_48_method_8_code (8 : Nat) (Option.some (Jvm.ClassFile.FieldType.array Jvm.ClassFile.FieldType.long)), Jvm.Cond.code ({ cls := "com/example/intact_keys/intactkeys/check/KeySet", name := "addPacked", desc := "(J)Z" } : Jvm.MethodName) prog_48_method_3_code (4 : Nat) (Option.some Jvm.ClassFile.FieldType.boolean), Jvm.Cond.code ({ cls := "com/example/intact_keys/intactkeys/check/KeySet", name := "addToTable", desc := "(J)Z" } : Jvm.MethodName) prog_48_method_13_code (4 : Nat) (Option.some Jvm.ClassFile.FieldType.boolean), Jvm.Cond.code ({ cls := "com/example/intact_keys/intactkeys/check/KeySet", name := "slotOf", desc := "(J)I" } : Jvm.MethodName) prog_48_method_14_code (5 : Nat) (Option.some Jvm.ClassFile.FieldType.int), Jvm.Cond.code ({ cls := "com/example/intact_keys/intactkeys/check/KeySet", name := "isOverfull", desc := "(I[J)Z" } : Jvm.MethodName) prog_48_method_16_code (2 : Nat) (Option.some Jvm.ClassFile.FieldType.boolean), Jvm.Cond.code ({ cls := "com/example/intact_keys/intactkeys/check/KeySetPackedValuesPinLaw", name := "count", desc := "([JJ)I" } : Jvm.MethodName) method_2_code (4 : Nat) (Option.some Jvm.ClassFile.FieldType.int)]
set_option maxRecDepth 65536 in
theorem codes_eq : words1.filter isCode = codes1 := rfl
theorem w_codes : ∀ c ∈ words1.filter isCode, c.before args0 about1 = true := by
  rw [codes_eq]
  intro c hc
  simp only [codes1, List.mem_cons, List.not_mem_nil, or_false] at hc
  rcases hc with rfl | rfl | rfl | rfl | rfl | rfl | rfl | rfl | rfl | rfl | rfl
  · exact w_c0
  · exact w_c1
  · exact w_c2
  · exact w_c3
  · exact w_c4
  · exact w_c5
  · exact w_c6
  · exact w_c7
  · exact w_c8
  · exact w_c9
  · exact w_c10
set_option maxRecDepth 65536 in
theorem w_t1 : (words1.take 24).all (fun c => isCode c || c.before args0 about1) = true := by decide +kernel
set_option maxRecDepth 65536 in
theorem w_t2 : ((words1.drop 24).take 24).all (fun c => isCode c || c.before args0 about1) = true := by decide +kernel
set_option maxRecDepth 65536 in
theorem w_t3 : ((words1.drop 24).drop 24).all (fun c => isCode c || c.before args0 about1) = true := by decide +kernel
theorem w_tables : (allAtoms (Jvm.Cond.code x code maxLocals ret :: tables_1)).before args0 about1 = true := by
  rw [allAtoms_all]
  show words1.all (fun c => c.before args0 about1) = true
  refine all_split ?_ w_codes
  rw [← List.take_append_drop 24 words1, List.all_append, w_t1, ← List.take_append_drop 24 (words1.drop 24), List.all_append, w_t2, w_t3]
  rfl
set_option maxRecDepth 65536 in
theorem w_case : (Jvm.Cond.and given_1 narrow_1).before args0 about1 = true := by decide +kernel
theorem w_applies : (headSpec (Jvm.Cond.code x code maxLocals ret :: tables_1) room_1).applies x e0.platform about1 = true :=
  (Spec.applies_iff w_frames).mpr ⟨w_running, w_runnable, w_alone, w_named, w_hears, w_ripe, w_room, w_tables⟩
theorem atStart : AtStart classFile x code maxLocals ret World_1 tables_1 room_1 Calls_1 rest_1 Pre_1 launch0 p0 e0 about1 theMethod args0 below0 :=
  ⟨lists_1, trivial, launch0.admits_env _ _ _, launch0.least_env, fairChoices_fair.cas, fairChoices_fair.clock, w_frames, w_args, w_heap, w_applies, trivial, trivial, w_case⟩
end start1
theorem witness_1 : WitnessClaimed_1 := ⟨start1.p0, start1.e0, start1.about1, start1.theMethod, start1.args0, start1.below0, start1.atStart⟩
end Jvm.Pilot.@@N@@
