import JvmDerived
import JvmDerived.Pilot.@@N@@Statement
import JvmDerived.Pilot.@@N@@Code
set_option linter.unusedVariables false
set_option linter.unusedSimpArgs false
namespace Jvm.RoadKit
open Sem ClassFile Op Lib Jvm.Stand Jvm.Free Jvm.LawKit
section New
variable {p : Program} {l : Launch} {e : Env} {R : Room} {s : State} {m : MethodId} {args : Array Value} {below : List Frame} {meth : Method} {c : Code} {T : State} {locs : List Loc} {cells slots : Nat}
theorem retI (X : Stand p l e R s m args below meth c T locs cells slots) (hx : p.tables.exec = Jvm.exec) {pc : Nat} {Ls : Array Slot} {z : Int32} {rest : List Value} (hret : meth.sig.returnType = some .int) (hd : decode c.code pc = .ok (.ireturn, 1)) {fs : List Frame}
    (hl : ∀ (f : JFrame) (acts : List Action), f.method = m → f.locked = none → f.entered = [] → (doReturn e (T.setTop f) acts (some (.int z))).1 = T.setFrames fs) : Steps p.tables e below (T.setTop (mkF m pc Ls (.int z :: rest))) (T.setFrames fs) := by
  have hm' : T.vm.method? m = some meth := X.method'
  have hn : narrow .int (.int z) = .int z := rfl
  show Steps p.tables e below (T.setTop { method := m, pc := pc, locals := Ls, stack := _ :: rest, locked := none }) _
  jvm_step X.here [X.here.top, hx, hd, hm', hret, hn]
  first | (intro acts; rw [hl _ acts rfl rfl rfl]) | rw [hl _ _ rfl rfl rfl]
  exact Steps.refl _
theorem retD (X : Stand p l e R s m args below meth c T locs cells slots) (hx : p.tables.exec = Jvm.exec) {pc : Nat} {Ls : Array Slot} {z : UInt64} {rest : List Value} (hret : meth.sig.returnType = some .double) (hd : decode c.code pc = .ok (.dreturn, 1)) {fs : List Frame}
    (hl : ∀ (f : JFrame) (acts : List Action), f.method = m → f.locked = none → f.entered = [] → (doReturn e (T.setTop f) acts (some (.double z))).1 = T.setFrames fs) : Steps p.tables e below (T.setTop (mkF m pc Ls (.double z :: rest))) (T.setFrames fs) := by
  have hm' : T.vm.method? m = some meth := X.method'
  show Steps p.tables e below (T.setTop { method := m, pc := pc, locals := Ls, stack := _ :: rest, locked := none }) _
  jvm_step X.here [X.here.top, hx, hd, hm', hret]
  first | (intro acts; rw [hl _ acts rfl rfl rfl]) | rw [hl _ _ rfl rfl rfl]
  exact Steps.refl _
end New
end Jvm.RoadKit
namespace Jvm.Pilot.@@N@@
open Jvm Jvm.ClassFile Sem Op Lib Jvm.Free Jvm.Stand Jvm.LawKit Jvm.RoadKit Bundle Jvm.Pilot.@@N@@.Jvm.D
theorem own_nar {z : Int32} (h : z = 0 ∨ z = 1) : nar .boolean z = z := by rcases h with rfl | rfl <;> rfl
theorem d1_0 : decode prog_75_method_1_code 0 = .ok (.aload_n 0, 1) := by decide +kernel
theorem d1_1 : decode prog_75_method_1_code 1 = .ok (.invokespecial 1, 3) := by decide +kernel
theorem d1_4 : decode prog_75_method_1_code 4 = .ok (.aload_n 0, 1) := by decide +kernel
theorem d1_5 : decode prog_75_method_1_code 5 = .ok (.iconst 2, 1) := by decide +kernel
theorem d1_6 : decode prog_75_method_1_code 6 = .ok (.newarray .double, 2) := by decide +kernel
theorem d1_8 : decode prog_75_method_1_code 8 = .ok (.putfield 7, 3) := by decide +kernel
theorem d1_11 : decode prog_75_method_1_code 11 = .ok (.aload_n 0, 1) := by decide +kernel
theorem d1_12 : decode prog_75_method_1_code 12 = .ok (.iconst 2, 1) := by decide +kernel
theorem d1_13 : decode prog_75_method_1_code 13 = .ok (.newarray .int, 2) := by decide +kernel
theorem d1_15 : decode prog_75_method_1_code 15 = .ok (.putfield 13, 3) := by decide +kernel
theorem d1_18 : decode prog_75_method_1_code 18 = .ok (.aload_n 0, 1) := by decide +kernel
theorem d1_19 : decode prog_75_method_1_code 19 = .ok (.iconst 2, 1) := by decide +kernel
theorem d1_20 : decode prog_75_method_1_code 20 = .ok (.iload_n 1, 1) := by decide +kernel
theorem d1_21 : decode prog_75_method_1_code 21 = .ok (.multianewarray 17 2, 4) := by decide +kernel
theorem d1_25 : decode prog_75_method_1_code 25 = .ok (.putfield 19, 3) := by decide +kernel
theorem d1_28 : decode prog_75_method_1_code 28 = .ok (.aload_n 0, 1) := by decide +kernel
theorem d1_29 : decode prog_75_method_1_code 29 = .ok (.iconst 2, 1) := by decide +kernel
theorem d1_30 : decode prog_75_method_1_code 30 = .ok (.iload_n 1, 1) := by decide +kernel
theorem d1_31 : decode prog_75_method_1_code 31 = .ok (.multianewarray 22 2, 4) := by decide +kernel
theorem d1_35 : decode prog_75_method_1_code 35 = .ok (.putfield 24, 3) := by decide +kernel
theorem d1_38 : decode prog_75_method_1_code 38 = .ok (.return_, 1) := by decide +kernel
theorem d3_0 : decode prog_75_method_4_code 0 = .ok (.aload_n 0, 1) := by decide +kernel
theorem d3_1 : decode prog_75_method_4_code 1 = .ok (.getfield 24, 3) := by decide +kernel
theorem d3_4 : decode prog_75_method_4_code 4 = .ok (.iload_n 2, 1) := by decide +kernel
theorem d3_5 : decode prog_75_method_4_code 5 = .ok (.aaload, 1) := by decide +kernel
theorem d3_6 : decode prog_75_method_4_code 6 = .ok (.iload_n 1, 1) := by decide +kernel
theorem d3_7 : decode prog_75_method_4_code 7 = .ok (.iaload, 1) := by decide +kernel
theorem d3_8 : decode prog_75_method_4_code 8 = .ok (.ifCond .le 22, 3) := by decide +kernel
theorem d3_11 : decode prog_75_method_4_code 11 = .ok (.aload_n 0, 1) := by decide +kernel
theorem d3_12 : decode prog_75_method_4_code 12 = .ok (.getfield 19, 3) := by decide +kernel
theorem d3_15 : decode prog_75_method_4_code 15 = .ok (.iload_n 2, 1) := by decide +kernel
theorem d3_16 : decode prog_75_method_4_code 16 = .ok (.aaload, 1) := by decide +kernel
theorem d3_17 : decode prog_75_method_4_code 17 = .ok (.iload_n 1, 1) := by decide +kernel
theorem d3_18 : decode prog_75_method_4_code 18 = .ok (.daload, 1) := by decide +kernel
theorem d3_19 : decode prog_75_method_4_code 19 = .ok (.aload_n 0, 1) := by decide +kernel
theorem d3_20 : decode prog_75_method_4_code 20 = .ok (.getfield 24, 3) := by decide +kernel
theorem d3_23 : decode prog_75_method_4_code 23 = .ok (.iload_n 2, 1) := by decide +kernel
theorem d3_24 : decode prog_75_method_4_code 24 = .ok (.aaload, 1) := by decide +kernel
theorem d3_25 : decode prog_75_method_4_code 25 = .ok (.iload_n 1, 1) := by decide +kernel
theorem d3_26 : decode prog_75_method_4_code 26 = .ok (.iaload, 1) := by decide +kernel
theorem d3_27 : decode prog_75_method_4_code 27 = .ok (.i2d, 1) := by decide +kernel
theorem d3_28 : decode prog_75_method_4_code 28 = .ok (.ddiv, 1) := by decide +kernel
theorem d3_29 : decode prog_75_method_4_code 29 = .ok (.dreturn, 1) := by decide +kernel
theorem d3_30 : decode prog_75_method_4_code 30 = .ok (.aload_n 0, 1) := by decide +kernel
theorem d3_31 : decode prog_75_method_4_code 31 = .ok (.getfield 13, 3) := by decide +kernel
theorem d3_34 : decode prog_75_method_4_code 34 = .ok (.iload_n 2, 1) := by decide +kernel
theorem d3_35 : decode prog_75_method_4_code 35 = .ok (.iaload, 1) := by decide +kernel
theorem d3_36 : decode prog_75_method_4_code 36 = .ok (.ifCond .le 18, 3) := by decide +kernel
theorem d3_39 : decode prog_75_method_4_code 39 = .ok (.aload_n 0, 1) := by decide +kernel
theorem d3_40 : decode prog_75_method_4_code 40 = .ok (.getfield 7, 3) := by decide +kernel
theorem d3_43 : decode prog_75_method_4_code 43 = .ok (.iload_n 2, 1) := by decide +kernel
theorem d3_44 : decode prog_75_method_4_code 44 = .ok (.daload, 1) := by decide +kernel
theorem d3_45 : decode prog_75_method_4_code 45 = .ok (.aload_n 0, 1) := by decide +kernel
theorem d3_46 : decode prog_75_method_4_code 46 = .ok (.getfield 13, 3) := by decide +kernel
theorem d3_49 : decode prog_75_method_4_code 49 = .ok (.iload_n 2, 1) := by decide +kernel
theorem d3_50 : decode prog_75_method_4_code 50 = .ok (.iaload, 1) := by decide +kernel
theorem d3_51 : decode prog_75_method_4_code 51 = .ok (.i2d, 1) := by decide +kernel
theorem d3_52 : decode prog_75_method_4_code 52 = .ok (.ddiv, 1) := by decide +kernel
theorem d3_53 : decode prog_75_method_4_code 53 = .ok (.dreturn, 1) := by decide +kernel
theorem d3_54 : decode prog_75_method_4_code 54 = .ok (.dconst 1, 1) := by decide +kernel
theorem d3_55 : decode prog_75_method_4_code 55 = .ok (.dreturn, 1) := by decide +kernel
theorem d4_0 : decode method_8_code 0 = .ok (.aload_n 0, 1) := by decide +kernel
theorem d4_1 : decode method_8_code 1 = .ok (.lload_n 1, 1) := by decide +kernel
theorem d4_2 : decode method_8_code 2 = .ok (.invokestatic 26, 3) := by decide +kernel
theorem d4_5 : decode method_8_code 5 = .ok (.lload_n 1, 1) := by decide +kernel
theorem d4_6 : decode method_8_code 6 = .ok (.invokestatic 18, 3) := by decide +kernel
theorem d4_9 : decode method_8_code 9 = .ok (.lload_n 1, 1) := by decide +kernel
theorem d4_10 : decode method_8_code 10 = .ok (.invokestatic 38, 3) := by decide +kernel
theorem d4_13 : decode method_8_code 13 = .ok (.lload_n 1, 1) := by decide +kernel
theorem d4_14 : decode method_8_code 14 = .ok (.invokestatic 35, 3) := by decide +kernel
theorem d4_17 : decode method_8_code 17 = .ok (.i2d, 1) := by decide +kernel
theorem d4_18 : decode method_8_code 18 = .ok (.invokevirtual 41, 3) := by decide +kernel
theorem d4_21 : decode method_8_code 21 = .ok (.return_, 1) := by decide +kernel
theorem d5_0 : decode method_3_code 0 = .ok (.lload_n 0, 1) := by decide +kernel
theorem d5_1 : decode method_3_code 1 = .ok (.ldc2_w 33, 3) := by decide +kernel
theorem d5_4 : decode method_3_code 4 = .ok (.land, 1) := by decide +kernel
theorem d5_5 : decode method_3_code 5 = .ok (.ldc2_w 33, 3) := by decide +kernel
theorem d5_8 : decode method_3_code 8 = .ok (.lrem, 1) := by decide +kernel
theorem d5_9 : decode method_3_code 9 = .ok (.l2i, 1) := by decide +kernel
theorem d5_10 : decode method_3_code 10 = .ok (.ireturn, 1) := by decide +kernel
theorem d6_0 : decode method_4_code 0 = .ok (.lload_n 0, 1) := by decide +kernel
theorem d6_1 : decode method_4_code 1 = .ok (.iconst 2, 1) := by decide +kernel
theorem d6_2 : decode method_4_code 2 = .ok (.lushr, 1) := by decide +kernel
theorem d6_3 : decode method_4_code 3 = .ok (.lconst 1, 1) := by decide +kernel
theorem d6_4 : decode method_4_code 4 = .ok (.land, 1) := by decide +kernel
theorem d6_5 : decode method_4_code 5 = .ok (.l2i, 1) := by decide +kernel
theorem d6_6 : decode method_4_code 6 = .ok (.ireturn, 1) := by decide +kernel
theorem d7_0 : decode method_5_code 0 = .ok (.iconst 1, 1) := by decide +kernel
theorem d7_1 : decode method_5_code 1 = .ok (.lload_n 0, 1) := by decide +kernel
theorem d7_2 : decode method_5_code 2 = .ok (.iconst 3, 1) := by decide +kernel
theorem d7_3 : decode method_5_code 3 = .ok (.lushr, 1) := by decide +kernel
theorem d7_4 : decode method_5_code 4 = .ok (.ldc2_w 33, 3) := by decide +kernel
theorem d7_7 : decode method_5_code 7 = .ok (.land, 1) := by decide +kernel
theorem d7_8 : decode method_5_code 8 = .ok (.l2i, 1) := by decide +kernel
theorem d7_9 : decode method_5_code 9 = .ok (.ishl, 1) := by decide +kernel
theorem d7_10 : decode method_5_code 10 = .ok (.i2d, 1) := by decide +kernel
theorem d7_11 : decode method_5_code 11 = .ok (.dreturn, 1) := by decide +kernel
theorem d8_0 : decode method_6_code 0 = .ok (.lload_n 0, 1) := by decide +kernel
theorem d8_1 : decode method_6_code 1 = .ok (.bipush 32, 2) := by decide +kernel
theorem d8_3 : decode method_6_code 3 = .ok (.lshr, 1) := by decide +kernel
theorem d8_4 : decode method_6_code 4 = .ok (.l2i, 1) := by decide +kernel
theorem d8_5 : decode method_6_code 5 = .ok (.ireturn, 1) := by decide +kernel
theorem d9_0 : decode prog_75_method_2_code 0 = .ok (.dconst 0, 1) := by decide +kernel
theorem d9_1 : decode prog_75_method_2_code 1 = .ok (.dload 5, 2) := by decide +kernel
theorem d9_3 : decode prog_75_method_2_code 3 = .ok (.invokestatic 27, 3) := by decide +kernel
theorem d9_6 : decode prog_75_method_2_code 6 = .ok (.dload_n 3, 1) := by decide +kernel
theorem d9_7 : decode prog_75_method_2_code 7 = .ok (.ddiv, 1) := by decide +kernel
theorem d9_8 : decode prog_75_method_2_code 8 = .ok (.dstore 7, 2) := by decide +kernel
theorem d9_10 : decode prog_75_method_2_code 10 = .ok (.aload_n 0, 1) := by decide +kernel
theorem d9_11 : decode prog_75_method_2_code 11 = .ok (.getfield 19, 3) := by decide +kernel
theorem d9_14 : decode prog_75_method_2_code 14 = .ok (.iload_n 2, 1) := by decide +kernel
theorem d9_15 : decode prog_75_method_2_code 15 = .ok (.aaload, 1) := by decide +kernel
theorem d9_16 : decode prog_75_method_2_code 16 = .ok (.iload_n 1, 1) := by decide +kernel
theorem d9_17 : decode prog_75_method_2_code 17 = .ok (.dup2, 1) := by decide +kernel
theorem d9_18 : decode prog_75_method_2_code 18 = .ok (.daload, 1) := by decide +kernel
theorem d9_19 : decode prog_75_method_2_code 19 = .ok (.dload 7, 2) := by decide +kernel
theorem d9_21 : decode prog_75_method_2_code 21 = .ok (.dadd, 1) := by decide +kernel
theorem d9_22 : decode prog_75_method_2_code 22 = .ok (.dastore, 1) := by decide +kernel
theorem d9_23 : decode prog_75_method_2_code 23 = .ok (.aload_n 0, 1) := by decide +kernel
theorem d9_24 : decode prog_75_method_2_code 24 = .ok (.getfield 24, 3) := by decide +kernel
theorem d9_27 : decode prog_75_method_2_code 27 = .ok (.iload_n 2, 1) := by decide +kernel
theorem d9_28 : decode prog_75_method_2_code 28 = .ok (.aaload, 1) := by decide +kernel
theorem d9_29 : decode prog_75_method_2_code 29 = .ok (.iload_n 1, 1) := by decide +kernel
theorem d9_30 : decode prog_75_method_2_code 30 = .ok (.dup2, 1) := by decide +kernel
theorem d9_31 : decode prog_75_method_2_code 31 = .ok (.iaload, 1) := by decide +kernel
theorem d9_32 : decode prog_75_method_2_code 32 = .ok (.iconst 1, 1) := by decide +kernel
theorem d9_33 : decode prog_75_method_2_code 33 = .ok (.iadd, 1) := by decide +kernel
theorem d9_34 : decode prog_75_method_2_code 34 = .ok (.iastore, 1) := by decide +kernel
theorem d9_35 : decode prog_75_method_2_code 35 = .ok (.aload_n 0, 1) := by decide +kernel
theorem d9_36 : decode prog_75_method_2_code 36 = .ok (.getfield 7, 3) := by decide +kernel
theorem d9_39 : decode prog_75_method_2_code 39 = .ok (.iload_n 2, 1) := by decide +kernel
theorem d9_40 : decode prog_75_method_2_code 40 = .ok (.dup2, 1) := by decide +kernel
theorem d9_41 : decode prog_75_method_2_code 41 = .ok (.daload, 1) := by decide +kernel
theorem d9_42 : decode prog_75_method_2_code 42 = .ok (.dload 7, 2) := by decide +kernel
theorem d9_44 : decode prog_75_method_2_code 44 = .ok (.dadd, 1) := by decide +kernel
theorem d9_45 : decode prog_75_method_2_code 45 = .ok (.dastore, 1) := by decide +kernel
theorem d9_46 : decode prog_75_method_2_code 46 = .ok (.aload_n 0, 1) := by decide +kernel
theorem d9_47 : decode prog_75_method_2_code 47 = .ok (.getfield 13, 3) := by decide +kernel
theorem d9_50 : decode prog_75_method_2_code 50 = .ok (.iload_n 2, 1) := by decide +kernel
theorem d9_51 : decode prog_75_method_2_code 51 = .ok (.dup2, 1) := by decide +kernel
theorem d9_52 : decode prog_75_method_2_code 52 = .ok (.iaload, 1) := by decide +kernel
theorem d9_53 : decode prog_75_method_2_code 53 = .ok (.iconst 1, 1) := by decide +kernel
theorem d9_54 : decode prog_75_method_2_code 54 = .ok (.iadd, 1) := by decide +kernel
theorem d9_55 : decode prog_75_method_2_code 55 = .ok (.iastore, 1) := by decide +kernel
theorem d9_56 : decode prog_75_method_2_code 56 = .ok (.return_, 1) := by decide +kernel
theorem d11_0 : decode method_7_code 0 = .ok (.lload_n 0, 1) := by decide +kernel
theorem d11_1 : decode method_7_code 1 = .ok (.invokestatic 35, 3) := by decide +kernel
theorem d11_4 : decode method_7_code 4 = .ok (.istore_n 2, 1) := by decide +kernel
theorem d11_5 : decode method_7_code 5 = .ok (.iload_n 2, 1) := by decide +kernel
theorem d11_6 : decode method_7_code 6 = .ok (.ifCond .ge 7, 3) := by decide +kernel
theorem d11_9 : decode method_7_code 9 = .ok (.dconst 0, 1) := by decide +kernel
theorem d11_10 : decode method_7_code 10 = .ok (.goto 5, 3) := by decide +kernel
theorem d11_13 : decode method_7_code 13 = .ok (.iload_n 2, 1) := by decide +kernel
theorem d11_14 : decode method_7_code 14 = .ok (.i2d, 1) := by decide +kernel
theorem d11_15 : decode method_7_code 15 = .ok (.dstore_n 3, 1) := by decide +kernel
theorem d11_16 : decode method_7_code 16 = .ok (.dload_n 3, 1) := by decide +kernel
theorem d11_17 : decode method_7_code 17 = .ok (.lload_n 0, 1) := by decide +kernel
theorem d11_18 : decode method_7_code 18 = .ok (.invokestatic 38, 3) := by decide +kernel
theorem d11_21 : decode method_7_code 21 = .ok (.ddiv, 1) := by decide +kernel
theorem d11_22 : decode method_7_code 22 = .ok (.dreturn, 1) := by decide +kernel
theorem pn_P : plainName "com/example/bundlewright/bundlewright/Pseudocosts" = true := by first | (simp [plainName, overriddenIn]; done) | decide +kernel
theorem pn_L : plainName "com/example/bundlewright/bundlewright/PseudocostsPerUnitPinLaw" = true := by first | (simp [plainName, overriddenIn]; done) | decide +kernel
def own_bid_f0 (q1 : Int64) : Int32 := (((q1 &&& (3 : Int64)) - (q1 &&& (3 : Int64)) / (3 : Int64) * (3 : Int64)).toInt32)
set_option maxRecDepth 65536 in
set_option maxHeartbeats 40000000 in
theorem own_bid_b0 {p : Program} {l : Launch} {e : Env} {R : Room} {s : State} {m : MethodId} {args : Array Value} {below : List Frame} {meth : Method} {c : Code} {T0 : State} {locs : List Loc} {cells slots : Nat} {Z : State} {a0 : Array Value} {h0 : Heap} (q1 : Int64)
    (X0 : Stand p l e R s m args below meth c T0 locs cells slots) (hx : p.tables.exec = Jvm.exec) (hZ : Z.Warmed39 s.vm) (hw : ∀ d ∈ tables_1, d.before a0 Z = true) (hby : c.code = method_3_code) (hml : c.maxLocals = 2) (hown : s.vm.findClass "com/example/bundlewright/bundlewright/PseudocostsPerUnitPinLaw" = some m.cls) (e0 : T0.heap = h0)  (F : Int32) (hF : F = own_bid_f0 q1 ) :
    ∃ (T' : State) (pc' : Nat) (Ls : Array Slot), Stand p l e R s m args below meth c T' locs cells slots ∧ T'.heap = h0 ∧ decode c.code pc' = .ok (.ireturn, 1) ∧
      ∀ target, Steps p.tables e below (T'.setTop (mkF m pc' Ls [.int F])) target → Steps p.tables e below (T0.setTop (mkF m 0 #[.val (.long q1), .second] [])) target := by
  have hv : F = (((q1 &&& (3 : Int64)) - (q1 &&& (3 : Int64)) / (3 : Int64) * (3 : Int64)).toInt32) := (hF.trans (by rw [own_bid_f0]))
  refine ⟨T0, 10, #[.val (.long q1), .second], X0, e0, (hb hby d5_10), fun target kt => ?_⟩
  rw [hv] at kt
  show Steps p.tables e below (T0.setTop (mkF m 0 #[.val (.long q1), .second] [])) _
  refine XS.lloadN X0.here hx rfl (hb hby d5_0) rfl ?_
  show Steps p.tables e below (T0.setTop (mkF m 1 #[.val (.long q1), .second] [(.long q1)])) _
  refine X0.ldc2Long hx hown (mvT hZ (hw _ (List.mem_of_getElem? (i := 35) rfl))) (g := (mkF m 1 #[.val (.long q1), .second] [(.long q1)])) rfl (hb hby d5_1) _ ?_
  show Steps p.tables e below (T0.setTop (mkF m 4 #[.val (.long q1), .second] [(.long (3 : Int64)), (.long q1)])) _
  refine XS.land X0.here hx rfl (hb hby d5_4) rfl ?_
  show Steps p.tables e below (T0.setTop (mkF m 5 #[.val (.long q1), .second] [(.long (q1 &&& (3 : Int64)))])) _
  refine X0.ldc2Long hx hown (mvT hZ (hw _ (List.mem_of_getElem? (i := 35) rfl))) (g := (mkF m 5 #[.val (.long q1), .second] [(.long (q1 &&& (3 : Int64)))])) rfl (hb hby d5_5) _ ?_
  show Steps p.tables e below (T0.setTop (mkF m 8 #[.val (.long q1), .second] [(.long (3 : Int64)), (.long (q1 &&& (3 : Int64)))])) _
  refine XS.lrem X0.here hx rfl (hb hby d5_8) rfl (by decide) ?_
  show Steps p.tables e below (T0.setTop (mkF m 9 #[.val (.long q1), .second] [(.long ((q1 &&& (3 : Int64)) - (q1 &&& (3 : Int64)) / (3 : Int64) * (3 : Int64)))])) _
  refine XS.l2i X0.here hx rfl (hb hby d5_9) rfl ?_
  show Steps p.tables e below (T0.setTop (mkF m 10 #[.val (.long q1), .second] [(.int (((q1 &&& (3 : Int64)) - (q1 &&& (3 : Int64)) / (3 : Int64) * (3 : Int64)).toInt32))])) _
  exact kt
theorem pn_2 : plainName "com/example/bundlewright/bundlewright/PseudocostsPerUnitPinLaw" = true := by first | (simp [plainName, overriddenIn]; done) | decide +kernel
theorem ef_2 (m : MethodId) (q1 : Int64) : entryFrame m #[(.long q1)] 2 = mkF m 0 #[.val (.long q1), .second] [] := by first | (simp [entryFrame, mkF, argsToLocals, Value.category]; done) | rfl
def Q2 (q1 : Int64)  (h0 : Heap) (n0 : Nat) (v : Option Value) (h : Heap) (L : List Loc) : Prop := v = some (.int (own_bid_f0 q1)) ∧ Fr n0 L ∧ h = h0
set_option maxRecDepth 65536 in
set_option maxHeartbeats 40000000 in
theorem rm2 (l : Launch) (Z : State) (a0 : Array Value) (hw : ∀ d ∈ tables_1, d.before a0 Z = true) (ws : List Jvm.Cond) (q1 : Int64)  (h0 : Heap) (n0 : Nat) (Z0 : n0 ≤ h0.size)  :
    MetFree l (⟨"com/example/bundlewright/bundlewright/PseudocostsPerUnitPinLaw", "bid", "(J)I"⟩ : MethodName) (head1 (Jvm.Cond.code (⟨"com/example/bundlewright/bundlewright/PseudocostsPerUnitPinLaw", "bid", "(J)I"⟩ : MethodName) method_3_code 2 (some .int) :: ws) ({ frames := 0, cells := 0, slots := 0, locals := 0 } : Room)) (fun a U => a = #[(.long q1)] ∧ Z.Warmed39 U.vm ∧ U.heap = h0) (fun _ _ _ _ _ => True) (fun _ U o U' => ∃ v L, o = .returned v ∧ Q2 q1  h0 n0 v U'.heap L ∧ FrameEnd U o U' L (({ frames := 0, cells := 0, slots := 0, locals := 0 } : Room)).cells (({ frames := 0, cells := 0, slots := 0, locals := 0 } : Room)).slots) := by
  refine MetFree.of_bodySF (plainFor_of_name pn_2) hisR ?_
  intro p e s m args below meth c s₁ Bd hml0 hP hK
  obtain ⟨rfl, hZ, hh⟩ := hP
  have hx := Bd.exec
  have hby := Bd.bytes
  have hml : c.maxLocals = 2 := hml0
  have hown : s.vm.findClass "com/example/bundlewright/bundlewright/PseudocostsPerUnitPinLaw" = some m.cls := findClass_of_methodNamed Bd.named
  have X0 : Stand p l e ({ frames := 0, cells := 0, slots := 0, locals := 0 } : Room) s m #[(.long q1)] below meth c s₁ [] 0 0 := Stand.of_body Bd
  have e0 : s₁.heap = h0 := by rw [← hh, Bd.state]; rfl
  obtain ⟨T', pc', Ls, X', e', hd', st'⟩ := own_bid_b0 q1 X0 hx hZ hw hby hml hown e0  (own_bid_f0 q1) rfl
  obtain ⟨fs, hr, hrun, hended, hW, hsame⟩ := X'.leave (v := some (.int (own_bid_f0 q1))) (fun h => by rw [Bd.returns] at h; cases h)
  refine ⟨_, _, castTop (ef_2 m q1) (st' _ ?_), hrun, hended, _, _, rfl, ?_, ⟨_, rfl⟩, hW, hsame.mono (by decide) (by decide)⟩
  · exact retI X' hx Bd.returns hd' hr
  · exact ⟨rfl, Fr.nil n0, e'⟩
def own_dir_f0 (q1 : Int64) : Int32 := ((((q1.toUInt64 >>> ((2 : Int32) &&& 0x3f).toInt64.toUInt64).toInt64) &&& (1 : Int64)).toInt32)
set_option maxRecDepth 65536 in
set_option maxHeartbeats 40000000 in
theorem own_dir_b0 {p : Program} {l : Launch} {e : Env} {R : Room} {s : State} {m : MethodId} {args : Array Value} {below : List Frame} {meth : Method} {c : Code} {T0 : State} {locs : List Loc} {cells slots : Nat} {Z : State} {a0 : Array Value} {h0 : Heap} (q1 : Int64)
    (X0 : Stand p l e R s m args below meth c T0 locs cells slots) (hx : p.tables.exec = Jvm.exec) (hZ : Z.Warmed39 s.vm) (hw : ∀ d ∈ tables_1, d.before a0 Z = true) (hby : c.code = method_4_code) (hml : c.maxLocals = 2) (hown : s.vm.findClass "com/example/bundlewright/bundlewright/PseudocostsPerUnitPinLaw" = some m.cls) (e0 : T0.heap = h0)  (F : Int32) (hF : F = own_dir_f0 q1 ) :
    ∃ (T' : State) (pc' : Nat) (Ls : Array Slot), Stand p l e R s m args below meth c T' locs cells slots ∧ T'.heap = h0 ∧ decode c.code pc' = .ok (.ireturn, 1) ∧
      ∀ target, Steps p.tables e below (T'.setTop (mkF m pc' Ls [.int F])) target → Steps p.tables e below (T0.setTop (mkF m 0 #[.val (.long q1), .second] [])) target := by
  have hv : F = ((((q1.toUInt64 >>> ((2 : Int32) &&& 0x3f).toInt64.toUInt64).toInt64) &&& (1 : Int64)).toInt32) := (hF.trans (by rw [own_dir_f0]))
  refine ⟨T0, 6, #[.val (.long q1), .second], X0, e0, (hb hby d6_6), fun target kt => ?_⟩
  rw [hv] at kt
  show Steps p.tables e below (T0.setTop (mkF m 0 #[.val (.long q1), .second] [])) _
  refine XS.lloadN X0.here hx rfl (hb hby d6_0) rfl ?_
  show Steps p.tables e below (T0.setTop (mkF m 1 #[.val (.long q1), .second] [(.long q1)])) _
  refine XS.iconst X0.here hx rfl (hb hby d6_1) ?_
  show Steps p.tables e below (T0.setTop (mkF m 2 #[.val (.long q1), .second] [(.int (2 : Int32)), (.long q1)])) _
  refine XS.lushr X0.here hx rfl (hb hby d6_2) rfl ?_
  show Steps p.tables e below (T0.setTop (mkF m 3 #[.val (.long q1), .second] [(.long ((q1.toUInt64 >>> ((2 : Int32) &&& 0x3f).toInt64.toUInt64).toInt64))])) _
  refine XS.lconst X0.here hx rfl (hb hby d6_3) ?_
  show Steps p.tables e below (T0.setTop (mkF m 4 #[.val (.long q1), .second] [(.long (1 : Int64)), (.long ((q1.toUInt64 >>> ((2 : Int32) &&& 0x3f).toInt64.toUInt64).toInt64))])) _
  refine XS.land X0.here hx rfl (hb hby d6_4) rfl ?_
  show Steps p.tables e below (T0.setTop (mkF m 5 #[.val (.long q1), .second] [(.long (((q1.toUInt64 >>> ((2 : Int32) &&& 0x3f).toInt64.toUInt64).toInt64) &&& (1 : Int64)))])) _
  refine XS.l2i X0.here hx rfl (hb hby d6_5) rfl ?_
  show Steps p.tables e below (T0.setTop (mkF m 6 #[.val (.long q1), .second] [(.int ((((q1.toUInt64 >>> ((2 : Int32) &&& 0x3f).toInt64.toUInt64).toInt64) &&& (1 : Int64)).toInt32))])) _
  exact kt
theorem pn_3 : plainName "com/example/bundlewright/bundlewright/PseudocostsPerUnitPinLaw" = true := by first | (simp [plainName, overriddenIn]; done) | decide +kernel
theorem ef_3 (m : MethodId) (q1 : Int64) : entryFrame m #[(.long q1)] 2 = mkF m 0 #[.val (.long q1), .second] [] := by first | (simp [entryFrame, mkF, argsToLocals, Value.category]; done) | rfl
def Q3 (q1 : Int64)  (h0 : Heap) (n0 : Nat) (v : Option Value) (h : Heap) (L : List Loc) : Prop := v = some (.int (own_dir_f0 q1)) ∧ Fr n0 L ∧ h = h0
set_option maxRecDepth 65536 in
set_option maxHeartbeats 40000000 in
theorem rm3 (l : Launch) (Z : State) (a0 : Array Value) (hw : ∀ d ∈ tables_1, d.before a0 Z = true) (ws : List Jvm.Cond) (q1 : Int64)  (h0 : Heap) (n0 : Nat) (Z0 : n0 ≤ h0.size)  :
    MetFree l (⟨"com/example/bundlewright/bundlewright/PseudocostsPerUnitPinLaw", "dir", "(J)I"⟩ : MethodName) (head1 (Jvm.Cond.code (⟨"com/example/bundlewright/bundlewright/PseudocostsPerUnitPinLaw", "dir", "(J)I"⟩ : MethodName) method_4_code 2 (some .int) :: ws) ({ frames := 0, cells := 0, slots := 0, locals := 0 } : Room)) (fun a U => a = #[(.long q1)] ∧ Z.Warmed39 U.vm ∧ U.heap = h0) (fun _ _ _ _ _ => True) (fun _ U o U' => ∃ v L, o = .returned v ∧ Q3 q1  h0 n0 v U'.heap L ∧ FrameEnd U o U' L (({ frames := 0, cells := 0, slots := 0, locals := 0 } : Room)).cells (({ frames := 0, cells := 0, slots := 0, locals := 0 } : Room)).slots) := by
  refine MetFree.of_bodySF (plainFor_of_name pn_3) hisR ?_
  intro p e s m args below meth c s₁ Bd hml0 hP hK
  obtain ⟨rfl, hZ, hh⟩ := hP
  have hx := Bd.exec
  have hby := Bd.bytes
  have hml : c.maxLocals = 2 := hml0
  have hown : s.vm.findClass "com/example/bundlewright/bundlewright/PseudocostsPerUnitPinLaw" = some m.cls := findClass_of_methodNamed Bd.named
  have X0 : Stand p l e ({ frames := 0, cells := 0, slots := 0, locals := 0 } : Room) s m #[(.long q1)] below meth c s₁ [] 0 0 := Stand.of_body Bd
  have e0 : s₁.heap = h0 := by rw [← hh, Bd.state]; rfl
  obtain ⟨T', pc', Ls, X', e', hd', st'⟩ := own_dir_b0 q1 X0 hx hZ hw hby hml hown e0  (own_dir_f0 q1) rfl
  obtain ⟨fs, hr, hrun, hended, hW, hsame⟩ := X'.leave (v := some (.int (own_dir_f0 q1))) (fun h => by rw [Bd.returns] at h; cases h)
  refine ⟨_, _, castTop (ef_3 m q1) (st' _ ?_), hrun, hended, _, _, rfl, ?_, ⟨_, rfl⟩, hW, hsame.mono (by decide) (by decide)⟩
  · exact retI X' hx Bd.returns hd' hr
  · exact ⟨rfl, Fr.nil n0, e'⟩
def own_fall_f0 (q1 : Int64) : Int32 := ((q1 >>> ((32 : Int32) &&& 0x3f).toInt64).toInt32)
set_option maxRecDepth 65536 in
set_option maxHeartbeats 40000000 in
theorem own_fall_b0 {p : Program} {l : Launch} {e : Env} {R : Room} {s : State} {m : MethodId} {args : Array Value} {below : List Frame} {meth : Method} {c : Code} {T0 : State} {locs : List Loc} {cells slots : Nat} {Z : State} {a0 : Array Value} {h0 : Heap} (q1 : Int64)
    (X0 : Stand p l e R s m args below meth c T0 locs cells slots) (hx : p.tables.exec = Jvm.exec) (hZ : Z.Warmed39 s.vm) (hw : ∀ d ∈ tables_1, d.before a0 Z = true) (hby : c.code = method_6_code) (hml : c.maxLocals = 2) (hown : s.vm.findClass "com/example/bundlewright/bundlewright/PseudocostsPerUnitPinLaw" = some m.cls) (e0 : T0.heap = h0)  (F : Int32) (hF : F = own_fall_f0 q1 ) :
    ∃ (T' : State) (pc' : Nat) (Ls : Array Slot), Stand p l e R s m args below meth c T' locs cells slots ∧ T'.heap = h0 ∧ decode c.code pc' = .ok (.ireturn, 1) ∧
      ∀ target, Steps p.tables e below (T'.setTop (mkF m pc' Ls [.int F])) target → Steps p.tables e below (T0.setTop (mkF m 0 #[.val (.long q1), .second] [])) target := by
  have hv : F = ((q1 >>> ((32 : Int32) &&& 0x3f).toInt64).toInt32) := (hF.trans (by rw [own_fall_f0]))
  refine ⟨T0, 5, #[.val (.long q1), .second], X0, e0, (hb hby d8_5), fun target kt => ?_⟩
  rw [hv] at kt
  show Steps p.tables e below (T0.setTop (mkF m 0 #[.val (.long q1), .second] [])) _
  refine XS.lloadN X0.here hx rfl (hb hby d8_0) rfl ?_
  show Steps p.tables e below (T0.setTop (mkF m 1 #[.val (.long q1), .second] [(.long q1)])) _
  refine XS.bipush X0.here hx rfl (hb hby d8_1) ?_
  show Steps p.tables e below (T0.setTop (mkF m 3 #[.val (.long q1), .second] [(.int (32 : Int32)), (.long q1)])) _
  refine XS.lshr X0.here hx rfl (hb hby d8_3) rfl ?_
  show Steps p.tables e below (T0.setTop (mkF m 4 #[.val (.long q1), .second] [(.long (q1 >>> ((32 : Int32) &&& 0x3f).toInt64))])) _
  refine XS.l2i X0.here hx rfl (hb hby d8_4) rfl ?_
  show Steps p.tables e below (T0.setTop (mkF m 5 #[.val (.long q1), .second] [(.int ((q1 >>> ((32 : Int32) &&& 0x3f).toInt64).toInt32))])) _
  exact kt
theorem pn_4 : plainName "com/example/bundlewright/bundlewright/PseudocostsPerUnitPinLaw" = true := by first | (simp [plainName, overriddenIn]; done) | decide +kernel
theorem ef_4 (m : MethodId) (q1 : Int64) : entryFrame m #[(.long q1)] 2 = mkF m 0 #[.val (.long q1), .second] [] := by first | (simp [entryFrame, mkF, argsToLocals, Value.category]; done) | rfl
def Q4 (q1 : Int64)  (h0 : Heap) (n0 : Nat) (v : Option Value) (h : Heap) (L : List Loc) : Prop := v = some (.int (own_fall_f0 q1)) ∧ Fr n0 L ∧ h = h0
set_option maxRecDepth 65536 in
set_option maxHeartbeats 40000000 in
theorem rm4 (l : Launch) (Z : State) (a0 : Array Value) (hw : ∀ d ∈ tables_1, d.before a0 Z = true) (ws : List Jvm.Cond) (q1 : Int64)  (h0 : Heap) (n0 : Nat) (Z0 : n0 ≤ h0.size)  :
    MetFree l (⟨"com/example/bundlewright/bundlewright/PseudocostsPerUnitPinLaw", "fall", "(J)I"⟩ : MethodName) (head1 (Jvm.Cond.code (⟨"com/example/bundlewright/bundlewright/PseudocostsPerUnitPinLaw", "fall", "(J)I"⟩ : MethodName) method_6_code 2 (some .int) :: ws) ({ frames := 0, cells := 0, slots := 0, locals := 0 } : Room)) (fun a U => a = #[(.long q1)] ∧ Z.Warmed39 U.vm ∧ U.heap = h0) (fun _ _ _ _ _ => True) (fun _ U o U' => ∃ v L, o = .returned v ∧ Q4 q1  h0 n0 v U'.heap L ∧ FrameEnd U o U' L (({ frames := 0, cells := 0, slots := 0, locals := 0 } : Room)).cells (({ frames := 0, cells := 0, slots := 0, locals := 0 } : Room)).slots) := by
  refine MetFree.of_bodySF (plainFor_of_name pn_4) hisR ?_
  intro p e s m args below meth c s₁ Bd hml0 hP hK
  obtain ⟨rfl, hZ, hh⟩ := hP
  have hx := Bd.exec
  have hby := Bd.bytes
  have hml : c.maxLocals = 2 := hml0
  have hown : s.vm.findClass "com/example/bundlewright/bundlewright/PseudocostsPerUnitPinLaw" = some m.cls := findClass_of_methodNamed Bd.named
  have X0 : Stand p l e ({ frames := 0, cells := 0, slots := 0, locals := 0 } : Room) s m #[(.long q1)] below meth c s₁ [] 0 0 := Stand.of_body Bd
  have e0 : s₁.heap = h0 := by rw [← hh, Bd.state]; rfl
  obtain ⟨T', pc', Ls, X', e', hd', st'⟩ := own_fall_b0 q1 X0 hx hZ hw hby hml hown e0  (own_fall_f0 q1) rfl
  obtain ⟨fs, hr, hrun, hended, hW, hsame⟩ := X'.leave (v := some (.int (own_fall_f0 q1))) (fun h => by rw [Bd.returns] at h; cases h)
  refine ⟨_, _, castTop (ef_4 m q1) (st' _ ?_), hrun, hended, _, _, rfl, ?_, ⟨_, rfl⟩, hW, hsame.mono (by decide) (by decide)⟩
  · exact retI X' hx Bd.returns hd' hr
  · exact ⟨rfl, Fr.nil n0, e'⟩
def own_sh (q1 : Int64) : Int32 := ((1 : Int32) <<< (((((q1.toUInt64 >>> ((3 : Int32) &&& 0x3f).toInt64.toUInt64).toInt64) &&& (3 : Int64)).toInt32) &&& 31))
def own_dist (q1 : Int64) : UInt64 := FP.i2d (own_sh q1)
theorem ef_5 (m : MethodId) (x0 : Int64) : entryFrame m #[(.long x0)] 2 = mkF m 0 #[.val (.long x0), .second] [] := by first | (simp [entryFrame, mkF, argsToLocals, Value.category]; done) | rfl
def Q5 (q1 : Int64) (h0 : Heap) (n0 : Nat) (vv : Option Value) (h : Heap) (L : List Loc) : Prop := vv = some (.double (own_dist q1)) ∧ Fr n0 L ∧ h = h0
set_option maxRecDepth 65536 in
set_option maxHeartbeats 40000000 in
theorem rm5 (l : Launch) (Z : State) (a0 : Array Value) (hw : ∀ d ∈ tables_1, d.before a0 Z = true) (ws' : List Jvm.Cond) (q1 : Int64) (h0 : Heap) (n0 : Nat) (Z0 : n0 ≤ h0.size)  :
    MetFree l (⟨"com/example/bundlewright/bundlewright/PseudocostsPerUnitPinLaw", "dist", "(J)D"⟩ : MethodName) (head1 (Jvm.Cond.code (⟨"com/example/bundlewright/bundlewright/PseudocostsPerUnitPinLaw", "dist", "(J)D"⟩ : MethodName) method_5_code 2 (some .double) :: ws') ({ frames := 0, cells := 0, slots := 0, locals := 0 } : Room)) (fun aa U => aa = #[(.long q1)] ∧ Z.Warmed39 U.vm ∧ U.heap = h0) (fun _ _ _ _ _ => True) (fun _ U o U' => ∃ vv L, o = .returned vv ∧ Q5 q1 h0 n0 vv U'.heap L ∧ FrameEnd U o U' L (({ frames := 0, cells := 0, slots := 0, locals := 0 } : Room)).cells (({ frames := 0, cells := 0, slots := 0, locals := 0 } : Room)).slots) := by
  refine MetFree.of_bodySF (plainFor_of_name pn_L) hisR ?_
  intro p e s m args below meth c s₁ Bd hml0 hP hK
  obtain ⟨rfl, hZ, hh⟩ := hP
  have hx := Bd.exec
  have hby := Bd.bytes
  have hml : c.maxLocals = 2 := hml0
  have hown : s.vm.findClass "com/example/bundlewright/bundlewright/PseudocostsPerUnitPinLaw" = some m.cls := findClass_of_methodNamed Bd.named
  have hnm := (name_of_methodNamed Bd.named Bd.method).1
  have X0 : Stand p l e ({ frames := 0, cells := 0, slots := 0, locals := 0 } : Room) s m #[(.long q1)] below meth c s₁ [] 0 0 := Stand.of_body Bd
  have e0 : s₁.heap = h0 := by rw [← hh, Bd.state]; rfl
  have N0 := Fr.nil n0
  obtain ⟨fs, hr, hrun, hended, hW, hsame⟩ := X0.leave (v := some (.double (own_dist q1))) (fun h => by rw [Bd.returns] at h; cases h)
  refine ⟨_, _, castTop (ef_5 m q1) ?_, hrun, hended, _, _, rfl, ?_, ⟨_, rfl⟩, hW, hsame.mono (by decide) (by decide)⟩
  · show Steps p.tables e below (s₁.setTop (mkF m 0 #[.val (.long q1), .second] [])) _
    refine XS.iconst X0.here hx rfl (hb hby d7_0) ?_
    show Steps p.tables e below (s₁.setTop (mkF m 1 #[.val (.long q1), .second] [(.int (1 : Int32))])) _
    refine XS.lloadN X0.here hx rfl (hb hby d7_1) rfl ?_
    show Steps p.tables e below (s₁.setTop (mkF m 2 #[.val (.long q1), .second] [(.long q1), (.int (1 : Int32))])) _
    refine XS.iconst X0.here hx rfl (hb hby d7_2) ?_
    show Steps p.tables e below (s₁.setTop (mkF m 3 #[.val (.long q1), .second] [(.int (3 : Int32)), (.long q1), (.int (1 : Int32))])) _
    refine XS.lushr X0.here hx rfl (hb hby d7_3) rfl ?_
    show Steps p.tables e below (s₁.setTop (mkF m 4 #[.val (.long q1), .second] [(.long ((q1.toUInt64 >>> ((3 : Int32) &&& 0x3f).toInt64.toUInt64).toInt64)), (.int (1 : Int32))])) _
    refine X0.ldc2Long hx hown (mvT hZ (hw _ (List.mem_of_getElem? (i := 35) rfl))) (g := (mkF m 4 #[.val (.long q1), .second] [(.long ((q1.toUInt64 >>> ((3 : Int32) &&& 0x3f).toInt64.toUInt64).toInt64)), (.int (1 : Int32))])) rfl (hb hby d7_4) _ ?_
    show Steps p.tables e below (s₁.setTop (mkF m 7 #[.val (.long q1), .second] [(.long (3 : Int64)), (.long ((q1.toUInt64 >>> ((3 : Int32) &&& 0x3f).toInt64.toUInt64).toInt64)), (.int (1 : Int32))])) _
    refine XS.land X0.here hx rfl (hb hby d7_7) rfl ?_
    show Steps p.tables e below (s₁.setTop (mkF m 8 #[.val (.long q1), .second] [(.long (((q1.toUInt64 >>> ((3 : Int32) &&& 0x3f).toInt64.toUInt64).toInt64) &&& (3 : Int64))), (.int (1 : Int32))])) _
    refine XS.l2i X0.here hx rfl (hb hby d7_8) rfl ?_
    show Steps p.tables e below (s₁.setTop (mkF m 9 #[.val (.long q1), .second] [(.int ((((q1.toUInt64 >>> ((3 : Int32) &&& 0x3f).toInt64.toUInt64).toInt64) &&& (3 : Int64)).toInt32)), (.int (1 : Int32))])) _
    refine XS.ishl X0.here hx rfl (hb hby d7_9) rfl ?_
    show Steps p.tables e below (s₁.setTop (mkF m 10 #[.val (.long q1), .second] [(.int ((1 : Int32) <<< (((((q1.toUInt64 >>> ((3 : Int32) &&& 0x3f).toInt64.toUInt64).toInt64) &&& (3 : Int64)).toInt32) &&& 31)))])) _
    refine XS.i2dS X0.here hx rfl (hb hby d7_10) rfl rfl ?_
    show Steps p.tables e below (s₁.setTop (mkF m 11 #[.val (.long q1), .second] [(.double (FP.i2d ((1 : Int32) <<< (((((q1.toUInt64 >>> ((3 : Int32) &&& 0x3f).toInt64.toUInt64).toInt64) &&& (3 : Int64)).toInt32) &&& 31))))])) _
    exact retD X0 hx Bd.returns (hb hby d7_11) hr
  · exact ⟨rfl, N0, e0⟩
theorem own_bid_r (x : Int64) : own_bid_f0 x = 0 ∨ own_bid_f0 x = 1 ∨ own_bid_f0 x = 2 := by
  have h1 := c_maskL x 3 2 (by decide) (by decide)
  have h2 := (c_lrem (x &&& (3 : Int64)) 3 3 (by decide)).1 (by rw [h1]; omega)
  have h3 := c_l2i ((x &&& (3 : Int64)) - (x &&& (3 : Int64)) / (3 : Int64) * (3 : Int64))
  have h4 := rng32 (own_bid_f0 x)
  unfold own_bid_f0 at h4 ⊢
  simp only [← Int32.toInt_inj, Int32.reduceToInt]
  rw [h2, h1] at h3
  omega
theorem own_dir_r (x : Int64) : own_dir_f0 x = 0 ∨ own_dir_f0 x = 1 := by
  have h1 := c_maskL ((x.toUInt64 >>> ((2 : Int32) &&& 0x3f).toInt64.toUInt64).toInt64) 1 1 (by decide) (by decide)
  have h3 := c_l2i (((x.toUInt64 >>> ((2 : Int32) &&& 0x3f).toInt64.toUInt64).toInt64) &&& (1 : Int64))
  have h4 := rng32 (own_dir_f0 x)
  unfold own_dir_f0 at h4 ⊢
  simp only [← Int32.toInt_inj, Int32.reduceToInt]
  rw [h1] at h3
  omega
theorem own_sh_r (x : Int64) : own_sh x = 1 ∨ own_sh x = 2 ∨ own_sh x = 4 ∨ own_sh x = 8 := by
  have h1 := c_maskL ((x.toUInt64 >>> ((3 : Int32) &&& 0x3f).toInt64.toUInt64).toInt64) 3 2 (by decide) (by decide)
  have h3 := c_l2i (((x.toUInt64 >>> ((3 : Int32) &&& 0x3f).toInt64.toUInt64).toInt64) &&& (3 : Int64))
  unfold own_sh
  generalize hy : ((((x.toUInt64 >>> ((3 : Int32) &&& 0x3f).toInt64.toUInt64).toInt64) &&& (3 : Int64)).toInt32) = y at *
  have h4 := rng32 y
  rw [h1] at h3
  have h5 : y = 0 ∨ y = 1 ∨ y = 2 ∨ y = 3 := by
    simp only [← Int32.toInt_inj, Int32.reduceToInt]
    omega
  rcases h5 with rfl | rfl | rfl | rfl <;> decide
theorem own_sh_ne (x : Int64) : own_sh x ≠ 0 := by rcases own_sh_r x with h | h | h | h <;> rw [h] <;> decide
theorem own_ne64 {n : Int32} (h : n ≠ 0) : n.toInt64 ≠ 0 := fun q => h (by
  have := congrArg Int64.toInt q
  rw [Int32.toInt_toInt64] at this
  exact Int32.toInt_inj.mp (by rw [this]; rfl))
theorem own_big {n : Int32} (h : n ≠ 0) : Big64 1023 (FP.i2d n) := by rw [i2d_w]; exact l2d_big (own_ne64 h)
theorem own_nz {n : Int32} (h : n ≠ 0) : Fl.Nz64 (FP.i2d n) := by
  rw [Fl.nz64_iff]; have := (own_big h).1; omega
theorem own_div {a : UInt64} {n : Int32} (ha : Fl.NoNaN64 a) (h : n ≠ 0) : Fl.NoNaN64 (FP.ddiv a (FP.i2d n)) := Fl.ddiv_out ha (Fl.i2d_fin n) (own_nz h)
def own_g (x : Int64) : UInt64 := if own_fall_f0 x < 0 then FP.dconst0 else FP.i2d (own_fall_f0 x)
def own_val (x : Int64) : UInt64 := FP.ddiv (own_g x) (own_dist x)
theorem own_g_mag (x : Int64) : Fl.Mag64 1056 (own_g x) := by
  unfold own_g; split
  · exact (by unfold Fl.Mag64 FP.dconst0; decide)
  · exact Fl.i2d_mag _
theorem own_val_mag (x : Int64) : Fl.Mag64 1057 (own_val x) := by
  have q : Fl.Mag64 (1056 + 1021 - 1023 + 3) (FP.ddiv (own_g x) (FP.i2d (own_sh x))) := ddiv_mag (own_g_mag x) (own_big (own_sh_ne x)) (by omega) (by omega)
  exact q.mono (by omega)
theorem own_val_nn (x : Int64) : Fl.NoNaN64 (own_val x) := ((own_val_mag x).fin (by decide)).noNaN
theorem own_pick (f : Int32) : Jvm.Native.java_lang_Math.nans.pick64 true FP.dconst0 (FP.i2d f) = if f < 0 then FP.dconst0 else FP.i2d f := by
  have e0 : FP.dconst0 = FP.l2d 0 := l2d_zero.symm
  have b0 : B53 (0 : Int64) := b53 (by decide) (by decide)
  have r := rng32 f
  have bf : B53 f.toInt64 := b53 (by rw [Int64.lt_iff_toInt_lt, Int32.toInt_toInt64]; simp only [Int64.reduceToInt]; omega) (by rw [Int64.lt_iff_toInt_lt, Int32.toInt_toInt64]; simp only [Int64.reduceToInt]; omega)
  rw [i2d_w, e0]
  by_cases h : (0 : Int64) < f.toInt64
  · rw [max_l b0 bf h, if_neg]
    rw [Int64.lt_iff_toInt_lt, Int32.toInt_toInt64] at h; rw [Int32.lt_iff_toInt_lt]; simp only [Int64.reduceToInt, Int32.reduceToInt] at h ⊢; omega
  · rw [max_g b0 bf h]
    split
    · rfl
    · have : f = 0 := Int32.toInt_inj.mp (by
        rename_i q
        rw [Int64.lt_iff_toInt_lt, Int32.toInt_toInt64] at h; rw [Int32.lt_iff_toInt_lt] at q; simp only [Int64.reduceToInt, Int32.reduceToInt] at h q ⊢; omega)
      subst this; rfl
def own_tot (S : List (Int32 × Int32 × UInt64)) (d : Int32) : UInt64 := S.foldl (fun a r => if r.2.1 = d then FP.dadd a r.2.2 else a) FP.dconst0
def own_obs (S : List (Int32 × Int32 × UInt64)) (d : Int32) : Int32 := S.foldl (fun a r => if r.2.1 = d then a + 1 else a) 0
def own_sum (S : List (Int32 × Int32 × UInt64)) (d b : Int32) : UInt64 := S.foldl (fun a r => if r.2.1 = d ∧ r.1 = b then FP.dadd a r.2.2 else a) FP.dconst0
def own_cnt (S : List (Int32 × Int32 × UInt64)) (d b : Int32) : Int32 := S.foldl (fun a r => if r.2.1 = d ∧ r.1 = b then a + 1 else a) 0
theorem own_tot_s (S : List (Int32 × Int32 × UInt64)) (b d : Int32) (v : UInt64) (d' : Int32) : own_tot (S ++ [(b, d, v)]) d' = if d = d' then FP.dadd (own_tot S d') v else own_tot S d' := by simp [own_tot, List.foldl_append]
theorem own_obs_s (S : List (Int32 × Int32 × UInt64)) (b d : Int32) (v : UInt64) (d' : Int32) : own_obs (S ++ [(b, d, v)]) d' = if d = d' then own_obs S d' + 1 else own_obs S d' := by simp [own_obs, List.foldl_append]
theorem own_sum_s (S : List (Int32 × Int32 × UInt64)) (b d : Int32) (v : UInt64) (d' b' : Int32) : own_sum (S ++ [(b, d, v)]) d' b' = if d = d' ∧ b = b' then FP.dadd (own_sum S d' b') v else own_sum S d' b' := by simp [own_sum, List.foldl_append]
theorem own_cnt_s (S : List (Int32 × Int32 × UInt64)) (b d : Int32) (v : UInt64) (d' b' : Int32) : own_cnt (S ++ [(b, d, v)]) d' b' = if d = d' ∧ b = b' then own_cnt S d' b' + 1 else own_cnt S d' b' := by simp [own_cnt, List.foldl_append]
def own_small (S : List (Int32 × Int32 × UInt64)) : Prop := S.length ≤ 3 ∧ ∀ r ∈ S, Fl.Mag64 1057 r.2.2
theorem own_fold_mag (P : Int32 × Int32 × UInt64 → Prop) [DecidablePred P] : ∀ (S : List (Int32 × Int32 × UInt64)) (K : Nat) (a : UInt64), 1057 ≤ K → K + 2 * S.length ≤ 2040 → Fl.Mag64 K a → (∀ r ∈ S, Fl.Mag64 1057 r.2.2) → Fl.Mag64 (K + 2 * S.length) (S.foldl (fun a r => if P r then FP.dadd a r.2.2 else a) a) := by
  intro S
  induction S with
  | nil => intro K a _ _ ha _; exact ha
  | cons r t ih =>
    intro K a hK hb ha hr
    simp only [List.length_cons] at hb
    have := ih (K + 2) (if P r then FP.dadd a r.2.2 else a) (by omega) (by omega) (by
      split
      · exact Fl.dadd_mag ha ((hr r (by simp)).mono hK) (by omega)
      · exact ha.mono (by omega)) (fun q hq => hr q (by simp [hq]))
    rw [List.foldl_cons, List.length_cons, show K + 2 * (t.length + 1) = K + 2 + 2 * t.length by omega]
    exact this
theorem own_zero_mag : Fl.Mag64 1057 FP.dconst0 := by unfold Fl.Mag64 FP.dconst0; decide
theorem own_tot_mag {S : List (Int32 × Int32 × UInt64)} (h : own_small S) (d : Int32) : Fl.Mag64 1063 (own_tot S d) :=
  (own_fold_mag (fun r => r.2.1 = d) S 1057 _ (Nat.le_refl _) (by have := h.1; omega) own_zero_mag h.2).mono (by have := h.1; omega)
theorem own_sum_mag {S : List (Int32 × Int32 × UInt64)} (h : own_small S) (d b : Int32) : Fl.Mag64 1063 (own_sum S d b) :=
  (own_fold_mag (fun r => r.2.1 = d ∧ r.1 = b) S 1057 _ (Nat.le_refl _) (by have := h.1; omega) own_zero_mag h.2).mono (by have := h.1; omega)
theorem own_add_nn {a v : UInt64} (ha : Fl.Mag64 1063 a) (hv : Fl.Mag64 1057 v) : Fl.NoNaN64 (FP.dadd a v) := ((Fl.dadd_mag ha (hv.mono (by decide)) (by decide)).fin (by decide)).noNaN
def own_per (cn : Int32) (sm : UInt64) (ob : Int32) (tt : UInt64) : UInt64 := if 0 < cn then FP.ddiv sm (FP.i2d cn) else if 0 < ob then FP.ddiv tt (FP.i2d ob) else FP.dconst1
theorem own_pos {n : Int32} (h : 0 < n) : n ≠ 0 := fun q => by subst q; exact absurd h (by decide)
theorem own_per_nn {cn ob : Int32} {sm tt : UInt64} (h1 : Fl.NoNaN64 sm) (h2 : Fl.NoNaN64 tt) : Fl.NoNaN64 (own_per cn sm ob tt) := by
  unfold own_per
  split
  · rename_i h; exact own_div h1 (own_pos h)
  · split
    · rename_i h; exact own_div h2 (own_pos h)
    · exact (by unfold Fl.NoNaN64 FP.dconst1; decide)
def own_row (S : List (Int32 × Int32 × UInt64)) (d : Int32) : List UInt64 := [own_sum S d 0, own_sum S d 1, own_sum S d 2]
def own_crow (S : List (Int32 × Int32 × UInt64)) (d : Int32) : List Int32 := [own_cnt S d 0, own_cnt S d 1, own_cnt S d 2]
def own_tots (S : List (Int32 × Int32 × UInt64)) : List UInt64 := [own_tot S 0, own_tot S 1]
def own_obss (S : List (Int32 × Int32 × UInt64)) : List Int32 := [own_obs S 0, own_obs S 1]
theorem own_row_at (S : List (Int32 × Int32 × UInt64)) (d : Int32) {b : Int32} (hb : b = 0 ∨ b = 1 ∨ b = 2) : (own_row S d).getD b.toNatClampNeg 0 = own_sum S d b := by rcases hb with rfl | rfl | rfl <;> rfl
theorem own_crow_at (S : List (Int32 × Int32 × UInt64)) (d : Int32) {b : Int32} (hb : b = 0 ∨ b = 1 ∨ b = 2) : (own_crow S d).getD b.toNatClampNeg 0 = own_cnt S d b := by rcases hb with rfl | rfl | rfl <;> rfl
theorem own_tots_at (S : List (Int32 × Int32 × UInt64)) {d : Int32} (hd : d = 0 ∨ d = 1) : (own_tots S).getD d.toNatClampNeg 0 = own_tot S d := by rcases hd with rfl | rfl <;> rfl
theorem own_obss_at (S : List (Int32 × Int32 × UInt64)) {d : Int32} (hd : d = 0 ∨ d = 1) : (own_obss S).getD d.toNatClampNeg 0 = own_obs S d := by rcases hd with rfl | rfl <;> rfl
theorem own_row_hit (S : List (Int32 × Int32 × UInt64)) (d : Int32) (v : UInt64) {b : Int32} (hb : b = 0 ∨ b = 1 ∨ b = 2) : (own_row S d).set b.toNatClampNeg (FP.dadd (own_sum S d b) v) = own_row (S ++ [(b, d, v)]) d := by
  unfold own_row
  simp only [own_sum_s, true_and]
  rcases hb with rfl | rfl | rfl <;> simp +decide
theorem own_crow_hit (S : List (Int32 × Int32 × UInt64)) (d : Int32) (v : UInt64) {b : Int32} (hb : b = 0 ∨ b = 1 ∨ b = 2) : (own_crow S d).set b.toNatClampNeg (own_cnt S d b + 1) = own_crow (S ++ [(b, d, v)]) d := by
  unfold own_crow
  simp only [own_cnt_s, true_and]
  rcases hb with rfl | rfl | rfl <;> simp +decide
theorem own_row_miss (S : List (Int32 × Int32 × UInt64)) {d d' : Int32} (b : Int32) (v : UInt64) (h : ¬ d = d') : own_row (S ++ [(b, d, v)]) d' = own_row S d' := by unfold own_row; simp only [own_sum_s, h, false_and, if_false]
theorem own_crow_miss (S : List (Int32 × Int32 × UInt64)) {d d' : Int32} (b : Int32) (v : UInt64) (h : ¬ d = d') : own_crow (S ++ [(b, d, v)]) d' = own_crow S d' := by unfold own_crow; simp only [own_cnt_s, h, false_and, if_false]
theorem own_tots_hit (S : List (Int32 × Int32 × UInt64)) (b : Int32) (v : UInt64) {d : Int32} (hd : d = 0 ∨ d = 1) : (own_tots S).set d.toNatClampNeg (FP.dadd (own_tot S d) v) = own_tots (S ++ [(b, d, v)]) := by
  unfold own_tots
  simp only [own_tot_s]
  rcases hd with rfl | rfl <;> simp +decide
theorem own_obss_hit (S : List (Int32 × Int32 × UInt64)) (b : Int32) (v : UInt64) {d : Int32} (hd : d = 0 ∨ d = 1) : (own_obss S).set d.toNatClampNeg (own_obs S d + 1) = own_obss (S ++ [(b, d, v)]) := by
  unfold own_obss
  simp only [own_obs_s]
  rcases hd with rfl | rfl <;> simp +decide
def own_D (Z : State) (h : Heap) (b : Addr) (xs : List UInt64) : Prop := ∃ cl : Cell, Arr Z h b cl .double ∧ cl.slots.size = xs.length ∧ ∀ i, i < xs.length → cl.slots[i]? = some (.double (xs.getD i 0))
theorem own_D.ext {Z : State} {h h' : Heap} {b : Addr} {xs : List UInt64} (A : own_D Z h b xs) (E : Ext h h') : own_D Z h' b xs := by obtain ⟨cl, A, r⟩ := A; exact ⟨cl, A.ext E, r⟩
theorem own_D.other {Z : State} {h h' : Heap} {a b : Addr} {sl : Nat} {v : Value} {xs : List UInt64} (A : own_D Z h b xs) (W : Wr h h' a sl v) (q : b ≠ a) : own_D Z h' b xs := by obtain ⟨cl, A, r⟩ := A; exact ⟨cl, A.other W q, r⟩
theorem own_D.keep {Z : State} {h h' : Heap} {b : Addr} {ws : List Addr} {xs : List UInt64} (A : own_D Z h b xs) (Q : Keep h h' ws) (q : b ∉ ws) : own_D Z h' b xs := by obtain ⟨cl, A, r⟩ := A; exact ⟨cl, ⟨Q.2.1 b cl A.1 q, A.2⟩, r⟩
theorem own_D.lt {Z : State} {h : Heap} {b : Addr} {xs : List UInt64} (A : own_D Z h b xs) : b < h.size := by obtain ⟨cl, A, r⟩ := A; exact A.lt
theorem own_D.new {Z : State} {h : Heap} {b : Addr} {k : ClassId} {n : Int32} (A : Arr Z h b (newA k .double n) .double) : own_D Z h b (List.replicate n.toNatClampNeg 0) :=
  ⟨_, A, by rw [sz_new]; simp, fun i hi => by
    have q : i < n.toNatClampNeg := by simpa using hi
    simp [newA, q, defaultValue, List.getD]⟩
theorem own_stD {p : Program} {l : Launch} {e : Env} {R : Room} {s : State} {m : MethodId} {args : Array Value} {below : List Frame} {meth : Method} {c : Code} {T : State} {locs : List Loc} {cells slots : Nat} {Z : State} {h : Heap} {n0 : Nat} {b : Addr} {xs : List UInt64}
    (X : Stand p l e R s m args below meth c T locs cells slots) (hx : p.tables.exec = Jvm.exec) (hZ : Z.Warmed39 s.vm) (eT : T.heap = h) (A : own_D Z h b xs) (gb : n0 ≤ b) (N : Fr n0 locs) (j : Int32) (i : Nat) (hj : ¬ j < 0 ∧ j.toNatClampNeg = i) (hi : i < xs.length) (x : UInt64) {g : JFrame} (hg : g.method = m) {rest : List Value} (hs : g.stack = .double x :: .int j :: .ref b :: rest) (hd : decode c.code g.pc = .ok (.dastore, 1)) :
    ∃ T' h' L', Stand p l e R s m args below meth c T' L' cells slots ∧ T'.heap = h' ∧ own_D Z h' b (xs.set i x) ∧ Fr n0 L' ∧ h'.size = h.size ∧ Keep h h' [b] ∧ ∀ target, Steps p.tables e below (T'.setTop { g with pc := g.pc + 1, stack := rest }) target → Steps p.tables e below (T.setTop g) target := by
  obtain ⟨cl, Ar, S, H⟩ := A
  obtain ⟨h1, h2⟩ := hj
  obtain ⟨T', h', X', e', W, st⟩ := stD X hx hZ eT Ar (j := j) (x := x) (fun q => q.elim h1 fun q => by rw [S, h2] at q; omega) hg hs hd
  refine ⟨T', h', _, X', e', ⟨_, Ar.same W, by rw [sz_set, List.length_set]; exact S, fun u hu => ?_⟩, Fr.snoc X' N gb, W.size, Keep.of_wr W, st⟩
  rw [List.length_set] at hu
  by_cases q : i = u
  · subst q; simp [Cell.setSlot, S, hi, h2, List.getD]
  · have := H u hu
    rw [Cell.setSlot, h2]
    refine (Array.getElem?_setIfInBounds_ne q).trans ?_
    simpa [List.getD, List.getElem?_set_ne q] using this
theorem own_inD {cl : Cell} {xs : List UInt64} {j : Int32} {i : Nat} (S : cl.slots.size = xs.length) (hj : ¬ j < 0 ∧ j.toNatClampNeg = i) (hi : i < xs.length) : ¬ (j < 0 ∨ cl.slots.size ≤ j.toNatClampNeg) := by
  rw [S, hj.2]; rintro (q | q)
  · exact hj.1 q
  · omega
theorem own_ldD {cl : Cell} {xs : List UInt64} {j : Int32} {i : Nat} (H : ∀ i, i < xs.length → cl.slots[i]? = some (.double (xs.getD i 0))) (hj : ¬ j < 0 ∧ j.toNatClampNeg = i) (hi : i < xs.length) : cl.slots[j.toNatClampNeg]? = some (.double (xs.getD i 0)) := by
  rw [hj.2]; exact H i hi
def own_L (Z : State) (h : Heap) (b : Addr) (xs : List Int32) : Prop := ∃ cl : Cell, Arr Z h b cl .int ∧ cl.slots.size = xs.length ∧ ∀ i, i < xs.length → cl.slots[i]? = some (.int (xs.getD i 0))
theorem own_L.ext {Z : State} {h h' : Heap} {b : Addr} {xs : List Int32} (A : own_L Z h b xs) (E : Ext h h') : own_L Z h' b xs := by obtain ⟨cl, A, r⟩ := A; exact ⟨cl, A.ext E, r⟩
theorem own_L.other {Z : State} {h h' : Heap} {a b : Addr} {sl : Nat} {v : Value} {xs : List Int32} (A : own_L Z h b xs) (W : Wr h h' a sl v) (q : b ≠ a) : own_L Z h' b xs := by obtain ⟨cl, A, r⟩ := A; exact ⟨cl, A.other W q, r⟩
theorem own_L.keep {Z : State} {h h' : Heap} {b : Addr} {ws : List Addr} {xs : List Int32} (A : own_L Z h b xs) (Q : Keep h h' ws) (q : b ∉ ws) : own_L Z h' b xs := by obtain ⟨cl, A, r⟩ := A; exact ⟨cl, ⟨Q.2.1 b cl A.1 q, A.2⟩, r⟩
theorem own_L.lt {Z : State} {h : Heap} {b : Addr} {xs : List Int32} (A : own_L Z h b xs) : b < h.size := by obtain ⟨cl, A, r⟩ := A; exact A.lt
theorem own_L.new {Z : State} {h : Heap} {b : Addr} {k : ClassId} {n : Int32} (A : Arr Z h b (newA k .int n) .int) : own_L Z h b (List.replicate n.toNatClampNeg 0) :=
  ⟨_, A, by rw [sz_new]; simp, fun i hi => by
    have q : i < n.toNatClampNeg := by simpa using hi
    simp [newA, q, defaultValue, List.getD]⟩
theorem own_stL {p : Program} {l : Launch} {e : Env} {R : Room} {s : State} {m : MethodId} {args : Array Value} {below : List Frame} {meth : Method} {c : Code} {T : State} {locs : List Loc} {cells slots : Nat} {Z : State} {h : Heap} {n0 : Nat} {b : Addr} {xs : List Int32}
    (X : Stand p l e R s m args below meth c T locs cells slots) (hx : p.tables.exec = Jvm.exec) (hZ : Z.Warmed39 s.vm) (eT : T.heap = h) (A : own_L Z h b xs) (gb : n0 ≤ b) (N : Fr n0 locs) (j : Int32) (i : Nat) (hj : ¬ j < 0 ∧ j.toNatClampNeg = i) (hi : i < xs.length) (x : Int32) {g : JFrame} (hg : g.method = m) {rest : List Value} (hs : g.stack = .int x :: .int j :: .ref b :: rest) (hd : decode c.code g.pc = .ok (.iastore, 1)) :
    ∃ T' h' L', Stand p l e R s m args below meth c T' L' cells slots ∧ T'.heap = h' ∧ own_L Z h' b (xs.set i x) ∧ Fr n0 L' ∧ h'.size = h.size ∧ Keep h h' [b] ∧ ∀ target, Steps p.tables e below (T'.setTop { g with pc := g.pc + 1, stack := rest }) target → Steps p.tables e below (T.setTop g) target := by
  obtain ⟨cl, Ar, S, H⟩ := A
  obtain ⟨h1, h2⟩ := hj
  obtain ⟨T', h', X', e', W, st⟩ := stI X hx hZ eT Ar (j := j) (x := x) (fun q => q.elim h1 fun q => by rw [S, h2] at q; omega) hg hs hd
  refine ⟨T', h', _, X', e', ⟨_, Ar.same W, by rw [sz_set, List.length_set]; exact S, fun u hu => ?_⟩, Fr.snoc X' N gb, W.size, Keep.of_wr W, st⟩
  rw [List.length_set] at hu
  by_cases q : i = u
  · subst q; simp [Cell.setSlot, S, hi, h2, List.getD]
  · have := H u hu
    rw [Cell.setSlot, h2]
    refine (Array.getElem?_setIfInBounds_ne q).trans ?_
    simpa [List.getD, List.getElem?_set_ne q] using this
theorem own_inL {cl : Cell} {xs : List Int32} {j : Int32} {i : Nat} (S : cl.slots.size = xs.length) (hj : ¬ j < 0 ∧ j.toNatClampNeg = i) (hi : i < xs.length) : ¬ (j < 0 ∨ cl.slots.size ≤ j.toNatClampNeg) := by
  rw [S, hj.2]; rintro (q | q)
  · exact hj.1 q
  · omega
theorem own_ldL {cl : Cell} {xs : List Int32} {j : Int32} {i : Nat} (H : ∀ i, i < xs.length → cl.slots[i]? = some (.int (xs.getD i 0))) (hj : ¬ j < 0 ∧ j.toNatClampNeg = i) (hi : i < xs.length) : cl.slots[j.toNatClampNeg]? = some (.int (xs.getD i 0)) := by
  rw [hj.2]; exact H i hi
def own_F (Z : State) (h : Heap) (b : Addr) (ty : FieldType) (x y : Addr) : Prop := ∃ cl : Cell, Arr Z h b cl (.array ty) ∧ cl.slots.size = 2 ∧ cl.slots[0]? = some (.ref x) ∧ cl.slots[1]? = some (.ref y)
theorem own_F.ext {Z : State} {h h' : Heap} {b x y : Addr} {ty : FieldType} (A : own_F Z h b ty x y) (E : Ext h h') : own_F Z h' b ty x y := by obtain ⟨cl, A, r⟩ := A; exact ⟨cl, A.ext E, r⟩
theorem own_F.other {Z : State} {h h' : Heap} {a b x y : Addr} {ty : FieldType} {sl : Nat} {v : Value} (A : own_F Z h b ty x y) (W : Wr h h' a sl v) (q : b ≠ a) : own_F Z h' b ty x y := by obtain ⟨cl, A, r⟩ := A; exact ⟨cl, A.other W q, r⟩
theorem own_F.keep {Z : State} {h h' : Heap} {b x y : Addr} {ty : FieldType} {ws : List Addr} (A : own_F Z h b ty x y) (Q : Keep h h' ws) (q : b ∉ ws) : own_F Z h' b ty x y := by obtain ⟨cl, A, r⟩ := A; exact ⟨cl, ⟨Q.2.1 b cl A.1 q, A.2⟩, r⟩
theorem own_F.row {Z : State} {h : Heap} {b x y : Addr} {ty : FieldType} (A : own_F Z h b ty x y) {d : Int32} (hd : d = 0 ∨ d = 1) : ∃ cl : Cell, Arr Z h b cl (.array ty) ∧ ¬ (d < 0 ∨ cl.slots.size ≤ d.toNatClampNeg) ∧ cl.slots[d.toNatClampNeg]? = some (.ref (if d = 0 then x else y)) := by
  obtain ⟨cl, A, S, h0, h1⟩ := A
  refine ⟨cl, A, ?_, ?_⟩
  · rw [S]; rcases hd with rfl | rfl <;> decide
  · rcases hd with rfl | rfl
    · exact h0
    · exact h1
theorem own_ni {b : Int32} (hb : b = 0 ∨ b = 1 ∨ b = 2) : (¬ b < 0 ∧ b.toNatClampNeg = b.toNatClampNeg) ∧ b.toNatClampNeg < 3 := by rcases hb with rfl | rfl | rfl <;> decide
theorem own_nd {d : Int32} (hd : d = 0 ∨ d = 1) : (¬ d < 0 ∧ d.toNatClampNeg = d.toNatClampNeg) ∧ d.toNatClampNeg < 2 := by rcases hd with rfl | rfl <;> decide
theorem ef_6 (m : MethodId) (x0 : Int64) : entryFrame m #[(.long x0)] 5 = mkF m 0 #[.val (.long x0), .second, .unset, .unset, .unset] [] := by first | (simp [entryFrame, mkF, argsToLocals, Value.category]; done) | rfl
def Q6 (q1 : Int64) (h0 : Heap) (n0 : Nat) (vv : Option Value) (h : Heap) (L : List Loc) : Prop := vv = some (.double (own_val q1)) ∧ Fr n0 L ∧ h = h0
set_option maxRecDepth 65536 in
set_option maxHeartbeats 40000000 in
theorem rm6 (l : Launch) (Z : State) (a0 : Array Value) (hw : ∀ d ∈ tables_1, d.before a0 Z = true) (ws' : List Jvm.Cond) (q1 : Int64) (h0 : Heap) (n0 : Nat) (Z0 : n0 ≤ h0.size)  :
    MetFree l (⟨"com/example/bundlewright/bundlewright/PseudocostsPerUnitPinLaw", "val", "(J)D"⟩ : MethodName) (head1 (Jvm.Cond.code (⟨"com/example/bundlewright/bundlewright/PseudocostsPerUnitPinLaw", "val", "(J)D"⟩ : MethodName) method_7_code 5 (some .double) :: ws') ({ frames := 1, cells := 0, slots := 0, locals := 15 } : Room)) (fun aa U => aa = #[(.long q1)] ∧ Z.Warmed39 U.vm ∧ U.heap = h0) (fun _ _ _ _ _ => True) (fun _ U o U' => ∃ vv L, o = .returned vv ∧ Q6 q1 h0 n0 vv U'.heap L ∧ FrameEnd U o U' L (({ frames := 1, cells := 0, slots := 0, locals := 15 } : Room)).cells (({ frames := 1, cells := 0, slots := 0, locals := 15 } : Room)).slots) := by
  refine MetFree.of_bodySF (plainFor_of_name pn_L) hisR ?_
  intro p e s m args below meth c s₁ Bd hml0 hP hK
  obtain ⟨rfl, hZ, hh⟩ := hP
  have hx := Bd.exec
  have hby := Bd.bytes
  have hml : c.maxLocals = 5 := hml0
  have hown : s.vm.findClass "com/example/bundlewright/bundlewright/PseudocostsPerUnitPinLaw" = some m.cls := findClass_of_methodNamed Bd.named
  have hnm := (name_of_methodNamed Bd.named Bd.method).1
  have X0 : Stand p l e ({ frames := 1, cells := 0, slots := 0, locals := 15 } : Room) s m #[(.long q1)] below meth c s₁ [] 0 0 := Stand.of_body Bd
  have e0 : s₁.heap = h0 := by rw [← hh, Bd.state]; rfl
  have N0 := Fr.nil n0
  obtain ⟨_, _, ⟨T1, L1, k1, n1⟩, -, X1, ⟨Lc1, hQ1, l1, y1, z1⟩, st1⟩ := Jvm.LawKit.callS X0 hx (y := (⟨"com/example/bundlewright/bundlewright/PseudocostsPerUnitPinLaw", "fall", "(J)I"⟩ : MethodName)) hown (mvT hZ (hw _ (List.mem_of_getElem? (i := 42) rfl))) (mvT hZ (hw _ (List.mem_of_getElem? (i := 43) rfl))) (mvT hZ (hw _ (List.mem_of_getElem? (i := 30) rfl))) (mvT hZ (hw _ (List.mem_of_getElem? (i := 44) rfl))) (by decide) (backOf (W := 0) (rm4 l Z a0 hw [] q1 h0 n0 Z0) hZ (hw _ (List.mem_of_getElem? (i := 44) rfl)) (hw _ (List.mem_of_getElem? (i := 30) rfl)) (by decide) (by decide)) (g := (mkF m 1 #[.val (.long q1), .second, .unset, .unset, .unset] [(.long q1)])) rfl (by rw [hml]; rfl) (argsL := [(.long q1)]) (rest := []) (lenOf (show parseMethodDescriptor "(J)I" = some ⟨[.long], (some .int)⟩ from by decide +kernel) rfl) rfl (by show 2 * 0 + _ ≤ _; exact Nat.le_of_eq rfl) (hb hby d11_1) (fun _ _ => ⟨rfl, e0, (by decide : 0 + 0 ≤ _), (by decide : 0 + 0 ≤ _)⟩)
  dsimp only [Pt.U, Pt.locs, Pt.cells, Pt.slots] at X1 l1 y1 z1 st1 hQ1
  subst l1 y1 z1
  obtain ⟨rfl, N1q, e1⟩ := hQ1
  have N1 := Fr.app N0 N1q
  have stm : ∀ t, Steps p.tables e below (T1.setTop (mkF m 16 #[.val (.long q1), .second, .val (.int (own_fall_f0 q1)), .val (.double (own_g q1)), .second] [])) t → Steps p.tables e below (T1.setTop (mkF m 6 #[.val (.long q1), .second, .val (.int (own_fall_f0 q1)), .unset, .unset] [(.int (own_fall_f0 q1))])) t := fun t kt => by
    unfold own_g at kt
    by_cases hf : own_fall_f0 q1 < 0
    · rw [if_pos hf] at kt
      show Steps p.tables e below (T1.setTop (mkF m 6 #[.val (.long q1), .second, .val (.int (own_fall_f0 q1)), .unset, .unset] [(.int (own_fall_f0 q1))])) _
      refine XS.ifNo X1.here hx rfl (hb hby d11_6) rfl ((if0 _ _).trans (tlt hf).2.1) ?_
      show Steps p.tables e below (T1.setTop (mkF m 9 #[.val (.long q1), .second, .val (.int (own_fall_f0 q1)), .unset, .unset] [])) _
      refine XS.dconst0 X1.here hx rfl (hb hby d11_9) rfl ?_
      show Steps p.tables e below (T1.setTop (mkF m 10 #[.val (.long q1), .second, .val (.int (own_fall_f0 q1)), .unset, .unset] [(.double FP.dconst0)])) _
      refine XS.goto X1.here hx rfl (pc0 := 10) (pc' := 15) rfl (hb hby d11_10) (by decide) (by decide) ?_
      show Steps p.tables e below (T1.setTop (mkF m 15 #[.val (.long q1), .second, .val (.int (own_fall_f0 q1)), .unset, .unset] [(.double FP.dconst0)])) _
      refine XS.dstoreN X1.here hx rfl (hb hby d11_15) rfl (l' := #[.val (.long q1), .second, .val (.int (own_fall_f0 q1)), .val (.double FP.dconst0), .second]) rfl ?_
      exact kt
    · rw [if_neg hf] at kt
      show Steps p.tables e below (T1.setTop (mkF m 6 #[.val (.long q1), .second, .val (.int (own_fall_f0 q1)), .unset, .unset] [(.int (own_fall_f0 q1))])) _
      refine XS.ifYes X1.here hx rfl (pc0 := 6) (pc' := 13) rfl (hb hby d11_6) rfl ((if0 _ _).trans (flt hf).2.1) (by decide) (by decide) ?_
      show Steps p.tables e below (T1.setTop (mkF m 13 #[.val (.long q1), .second, .val (.int (own_fall_f0 q1)), .unset, .unset] [])) _
      refine XS.iloadN X1.here hx rfl (hb hby d11_13) rfl ?_
      show Steps p.tables e below (T1.setTop (mkF m 14 #[.val (.long q1), .second, .val (.int (own_fall_f0 q1)), .unset, .unset] [(.int (own_fall_f0 q1))])) _
      refine XS.i2dS X1.here hx rfl (hb hby d11_14) rfl rfl ?_
      show Steps p.tables e below (T1.setTop (mkF m 15 #[.val (.long q1), .second, .val (.int (own_fall_f0 q1)), .unset, .unset] [(.double (FP.i2d (own_fall_f0 q1)))])) _
      refine XS.dstoreN X1.here hx rfl (hb hby d11_15) rfl (l' := #[.val (.long q1), .second, .val (.int (own_fall_f0 q1)), .val (.double (FP.i2d (own_fall_f0 q1))), .second]) rfl ?_
      exact kt
  obtain ⟨_, _, ⟨T2, L2, k2, n2⟩, -, X2, ⟨Lc2, hQ2, l2, y2, z2⟩, st2⟩ := Jvm.LawKit.callS X1 hx (y := (⟨"com/example/bundlewright/bundlewright/PseudocostsPerUnitPinLaw", "dist", "(J)D"⟩ : MethodName)) hown (mvT hZ (hw _ (List.mem_of_getElem? (i := 39) rfl))) (mvT hZ (hw _ (List.mem_of_getElem? (i := 40) rfl))) (mvT hZ (hw _ (List.mem_of_getElem? (i := 30) rfl))) (mvT hZ (hw _ (List.mem_of_getElem? (i := 41) rfl))) (by decide) (backOf (W := 2) (rm5 l Z a0 hw [] q1 h0 n0 Z0) hZ (hw _ (List.mem_of_getElem? (i := 41) rfl)) (hw _ (List.mem_of_getElem? (i := 30) rfl)) (by decide) (by decide)) (g := (mkF m 18 #[.val (.long q1), .second, .val (.int (own_fall_f0 q1)), .val (.double (own_g q1)), .second] [(.long q1), (.double (own_g q1))])) rfl (by rw [hml]; rfl) (argsL := [(.long q1)]) (rest := [(.double (own_g q1))]) (lenOf (show parseMethodDescriptor "(J)D" = some ⟨[.long], (some .double)⟩ from by decide +kernel) rfl) rfl (by show 2 * 0 + _ ≤ _; exact Nat.le_of_eq rfl) (hb hby d11_18) (fun _ _ => ⟨rfl, e1, (by decide : 0 + 0 ≤ _), (by decide : 0 + 0 ≤ _)⟩)
  dsimp only [Pt.U, Pt.locs, Pt.cells, Pt.slots] at X2 l2 y2 z2 st2 hQ2
  subst l2 y2 z2
  obtain ⟨rfl, N2q, e2⟩ := hQ2
  have N2 := Fr.app N1 N2q
  obtain ⟨fs, hr, hrun, hended, hW, hsame⟩ := X2.leave (v := some (.double (own_val q1))) (fun h => by rw [Bd.returns] at h; cases h)
  refine ⟨_, _, castTop (ef_6 m q1) ?_, hrun, hended, _, _, rfl, ?_, ⟨_, rfl⟩, hW, hsame.mono (by decide) (by decide)⟩
  · show Steps p.tables e below (s₁.setTop (mkF m 0 #[.val (.long q1), .second, .unset, .unset, .unset] [])) _
    refine XS.lloadN X0.here hx rfl (hb hby d11_0) rfl ?_
    show Steps p.tables e below (s₁.setTop (mkF m 1 #[.val (.long q1), .second, .unset, .unset, .unset] [(.long q1)])) _
    refine st1 _ ?_
    show Steps p.tables e below (T1.setTop (mkF m 4 #[.val (.long q1), .second, .unset, .unset, .unset] [(.int (own_fall_f0 q1))])) _
    refine XS.istoreN X1.here hx rfl (hb hby d11_4) rfl (l' := #[.val (.long q1), .second, .val (.int (own_fall_f0 q1)), .unset, .unset]) rfl ?_
    show Steps p.tables e below (T1.setTop (mkF m 5 #[.val (.long q1), .second, .val (.int (own_fall_f0 q1)), .unset, .unset] [])) _
    refine XS.iloadN X1.here hx rfl (hb hby d11_5) rfl ?_
    refine stm _ ?_
    show Steps p.tables e below (T1.setTop (mkF m 16 #[.val (.long q1), .second, .val (.int (own_fall_f0 q1)), .val (.double (own_g q1)), .second] [])) _
    refine XS.dloadN X1.here hx rfl (hb hby d11_16) rfl ?_
    show Steps p.tables e below (T1.setTop (mkF m 17 #[.val (.long q1), .second, .val (.int (own_fall_f0 q1)), .val (.double (own_g q1)), .second] [(.double (own_g q1))])) _
    refine XS.lloadN X1.here hx rfl (hb hby d11_17) rfl ?_
    show Steps p.tables e below (T1.setTop (mkF m 18 #[.val (.long q1), .second, .val (.int (own_fall_f0 q1)), .val (.double (own_g q1)), .second] [(.long q1), (.double (own_g q1))])) _
    refine st2 _ ?_
    show Steps p.tables e below (T2.setTop (mkF m 21 #[.val (.long q1), .second, .val (.int (own_fall_f0 q1)), .val (.double (own_g q1)), .second] [(.double (own_dist q1)), (.double (own_g q1))])) _
    refine XS.ddivS X2.here hx rfl (hb hby d11_21) rfl (own_val_nn q1) rfl ?_
    show Steps p.tables e below (T2.setTop (mkF m 22 #[.val (.long q1), .second, .val (.int (own_fall_f0 q1)), .val (.double (own_g q1)), .second] [(.double (FP.ddiv (own_g q1) (own_dist q1)))])) _
    exact retD X2 hx Bd.returns (hb hby d11_22) hr
  · exact ⟨rfl, N2, e2⟩
theorem ef_7 (m : MethodId) (x0 : Addr) (x1 x2 : Int32) (x3 x4 : UInt64) : entryFrame m #[(.ref x0), (.int x1), (.int x2), (.double x3), (.double x4)] 9 = mkF m 0 #[.val (.ref x0), .val (.int x1), .val (.int x2), .val (.double x3), .second, .val (.double x4), .second, .unset, .unset] [] := by first | (simp [entryFrame, mkF, argsToLocals, Value.category]; done) | rfl
def Q7 (Z : State) (a : Nat) (b d : Int32) (di fa : UInt64) (sA cA tA oA sd cd : Nat) (xs ts : List UInt64) (ys os : List Int32) (bi dd : Nat) (h0 : Heap) (n0 : Nat) (vv : Option Value) (h : Heap) (L : List Loc) : Prop := ∃ v, v = (FP.ddiv (Jvm.Native.java_lang_Math.nans.pick64 true FP.dconst0 fa) di) ∧ vv = none ∧ Fr n0 L ∧ Keep h0 h [sd, cd, tA, oA] ∧ own_D Z h sd (xs.set bi (FP.dadd (xs.getD bi 0) v)) ∧ own_L Z h cd (ys.set bi (ys.getD bi 0 + 1)) ∧ own_D Z h tA (ts.set dd (FP.dadd (ts.getD dd 0) v)) ∧ own_L Z h oA (os.set dd (os.getD dd 0 + 1))
set_option maxRecDepth 65536 in
set_option maxHeartbeats 40000000 in
theorem rm7 (l : Launch) (Z : State) (a0 : Array Value) (hw : ∀ d ∈ tables_1, d.before a0 Z = true) (ws' : List Jvm.Cond) (a : Nat) (b d : Int32) (di fa : UInt64) (sA cA tA oA sd cd : Nat) (xs ts : List UInt64) (ys os : List Int32) (bi dd : Nat) (h0 : Heap) (n0 : Nat) (Z0 : n0 ≤ h0.size) (v : UInt64) (hvv : v = (FP.ddiv (Jvm.Native.java_lang_Math.nans.pick64 true FP.dconst0 fa) di)) (hfa : Fl.NoNaN64 fa) (hv1 : Fl.NoNaN64 (FP.ddiv (Jvm.Native.java_lang_Math.nans.pick64 true FP.dconst0 fa) di)) (Fs : Fld Z h0 a "com/example/bundlewright/bundlewright/Pseudocosts" "sum" "[[D" (.ref sA)) (Fc : Fld Z h0 a "com/example/bundlewright/bundlewright/Pseudocosts" "count" "[[I" (.ref cA)) (Ft : Fld Z h0 a "com/example/bundlewright/bundlewright/Pseudocosts" "total" "[D" (.ref tA)) (Fo : Fld Z h0 a "com/example/bundlewright/bundlewright/Pseudocosts" "observations" "[I" (.ref oA))
    (cls : Cell) (As : Arr Z h0 sA cls (.array .double)) (hs1 : ¬ (d < 0 ∨ cls.slots.size ≤ d.toNatClampNeg)) (hs2 : cls.slots[d.toNatClampNeg]? = some (.ref sd)) (clc : Cell) (Ac : Arr Z h0 cA clc (.array .int)) (hc1 : ¬ (d < 0 ∨ clc.slots.size ≤ d.toNatClampNeg)) (hc2 : clc.slots[d.toNatClampNeg]? = some (.ref cd))
    (Dx : own_D Z h0 sd xs) (Ly : own_L Z h0 cd ys) (Dt : own_D Z h0 tA ts) (Lo : own_L Z h0 oA os) (hb1 : ¬ b < 0 ∧ b.toNatClampNeg = bi) (hb2 : bi < xs.length) (hb3 : bi < ys.length) (hd1 : ¬ d < 0 ∧ d.toNatClampNeg = dd) (hd2 : dd < ts.length) (hd3 : dd < os.length)
    (hn1 : Fl.NoNaN64 (FP.dadd (xs.getD bi 0) v)) (hn2 : Fl.NoNaN64 (FP.dadd (ts.getD dd 0) v)) (gsd : n0 ≤ sd) (gcd : n0 ≤ cd) (gt : n0 ≤ tA) (go : n0 ≤ oA)
    (n_c_sd : cA ≠ sd) (n_cd_sd : cd ≠ sd) (n_t_sd : tA ≠ sd) (n_o_sd : oA ≠ sd) (n_a_sd : a ≠ sd) (n_t_cd : tA ≠ cd) (n_o_cd : oA ≠ cd) (n_a_cd : a ≠ cd) (n_o_t : oA ≠ tA) (n_a_t : a ≠ tA) :
    MetFree l (⟨"com/example/bundlewright/bundlewright/Pseudocosts", "record", "(IIDD)V"⟩ : MethodName) (head1 (Jvm.Cond.code (⟨"com/example/bundlewright/bundlewright/Pseudocosts", "record", "(IIDD)V"⟩ : MethodName) prog_75_method_2_code 9 none :: ws') ({ frames := 1, cells := 0, slots := 0, locals := 15 } : Room)) (fun aa U => aa = #[(.ref a), (.int b), (.int d), (.double di), (.double fa)] ∧ Z.Warmed39 U.vm ∧ U.heap = h0) (fun _ _ _ _ _ => True) (fun _ U o U' => ∃ vv L, o = .returned vv ∧ Q7 Z a b d di fa sA cA tA oA sd cd xs ts ys os bi dd h0 n0 vv U'.heap L ∧ FrameEnd U o U' L (({ frames := 1, cells := 0, slots := 0, locals := 15 } : Room)).cells (({ frames := 1, cells := 0, slots := 0, locals := 15 } : Room)).slots) := by
  refine MetFree.of_bodySF (plainFor_of_name pn_P) hisR ?_
  intro p e s m args below meth c s₁ Bd hml0 hP hK
  obtain ⟨rfl, hZ, hh⟩ := hP
  have hx := Bd.exec
  have hby := Bd.bytes
  have hml : c.maxLocals = 9 := hml0
  have hown : s.vm.findClass "com/example/bundlewright/bundlewright/Pseudocosts" = some m.cls := findClass_of_methodNamed Bd.named
  have hnm := (name_of_methodNamed Bd.named Bd.method).1
  have X0 : Stand p l e ({ frames := 1, cells := 0, slots := 0, locals := 15 } : Room) s m #[(.ref a), (.int b), (.int d), (.double di), (.double fa)] below meth c s₁ [] 0 0 := Stand.of_body Bd
  have e0 : s₁.heap = h0 := by rw [← hh, Bd.state]; rfl
  have N0 := Fr.nil n0
  obtain ⟨T1, X1, e1, st1⟩ := natS X0 hx hZ (y := (⟨"java/lang/Math", "max", "(DD)D"⟩ : MethodName)) hown (hw _ (List.mem_of_getElem? (i := 50) rfl)) (hw _ (List.mem_of_getElem? (i := 51) rfl)) (hw _ (List.mem_of_getElem? (i := 52) rfl)) (hw _ (List.mem_of_getElem? (i := 53) rfl)) (by decide) e0 (W := 0) (val' := .double (Jvm.Native.java_lang_Math.nans.pick64 true FP.dconst0 fa)) (fun hc => Fl.Abs.maxD_pays FP.dconst0 fa hc (by decide) (by decide)) (g := (mkF m 3 #[.val (.ref a), .val (.int b), .val (.int d), .val (.double di), .second, .val (.double fa), .second, .unset, .unset] [(.double fa), (.double FP.dconst0)])) rfl (by rw [hml]; rfl) (argsL := [(.double FP.dconst0), (.double fa)]) (rest := []) (lenOf (show parseMethodDescriptor "(DD)D" = some ⟨[.double, .double], (some .double)⟩ from by decide +kernel) rfl) rfl (by show 2 * 0 + _ ≤ _; exact Nat.le_of_eq rfl) (hb hby d9_3) (by decide) (by decide) ⟨rfl, (by unfold Fl.NoNaN64 FP.dconst0; decide), hfa⟩ rfl
  obtain ⟨T2, X2, e2, st2⟩ := getF X1 hx hZ hown (host := "") (Or.inl (hw _ (List.mem_of_getElem? (i := 17) rfl))) Via.refl e1 Fs (g := (mkF m 11 #[.val (.ref a), .val (.int b), .val (.int d), .val (.double di), .second, .val (.double fa), .second, .val (.double v), .second] [(.ref a)])) rfl rfl (hb hby d9_11)
  obtain ⟨cx, Ax, Sx, Hx⟩ := (show own_D Z h0 sd xs from Dx)
  obtain ⟨T3, h3, L3, X3, e3, A3, N3, z3, K3, st3⟩ := own_stD X2 hx hZ e2 Dx gsd N0 b bi hb1 hb2 (FP.dadd (xs.getD bi 0) v) (g := (mkF m 22 #[.val (.ref a), .val (.int b), .val (.int d), .val (.double di), .second, .val (.double fa), .second, .val (.double v), .second] [(.double (FP.dadd (xs.getD bi 0) v)), (.int b), (.ref sd)])) rfl rfl (hb hby d9_22)
  have k3 : ∀ z, z ≠ sd → z ∉ [sd] := fun z q => ninS q nin0
  have Ac3 : Arr Z h3 cA clc (.array .int) := ⟨K3.2.1 _ _ Ac.1 (k3 _ n_c_sd), Ac.2⟩
  have Ly3 := Ly.keep K3 (k3 _ n_cd_sd)
  have Dt3 := Dt.keep K3 (k3 _ n_t_sd)
  have Lo3 := Lo.keep K3 (k3 _ n_o_sd)
  have Fc3 := Fc.keep K3 (k3 _ n_a_sd)
  have Ft3 := Ft.keep K3 (k3 _ n_a_sd)
  have Fo3 := Fo.keep K3 (k3 _ n_a_sd)
  obtain ⟨T4, X4, e4, st4⟩ := getF X3 hx hZ hown (host := "") (Or.inl (hw _ (List.mem_of_getElem? (i := 21) rfl))) Via.refl e3 Fc3 (g := (mkF m 24 #[.val (.ref a), .val (.int b), .val (.int d), .val (.double di), .second, .val (.double fa), .second, .val (.double v), .second] [(.ref a)])) rfl rfl (hb hby d9_24)
  obtain ⟨cy, Ay, Sy, Hy⟩ := (show own_L Z h3 cd ys from Ly3)
  obtain ⟨T5, h5, L5, X5, e5, A5, N5, z5, K5, st5⟩ := own_stL X4 hx hZ e4 Ly3 gcd N3 b bi hb1 hb3 (ys.getD bi 0 + 1) (g := (mkF m 34 #[.val (.ref a), .val (.int b), .val (.int d), .val (.double di), .second, .val (.double fa), .second, .val (.double v), .second] [(.int ((ys.getD bi 0) + (1 : Int32))), (.int b), (.ref cd)])) rfl rfl (hb hby d9_34)
  have k5 : ∀ z, z ≠ cd → z ∉ [cd] := fun z q => ninS q nin0
  have Dx5 := A3.keep K5 (k5 _ (Ne.symm n_cd_sd))
  have Dt5 := Dt3.keep K5 (k5 _ n_t_cd)
  have Lo5 := Lo3.keep K5 (k5 _ n_o_cd)
  have Ft5 := Ft3.keep K5 (k5 _ n_a_cd)
  have Fo5 := Fo3.keep K5 (k5 _ n_a_cd)
  obtain ⟨T6, X6, e6, st6⟩ := getF X5 hx hZ hown (host := "") (Or.inl (hw _ (List.mem_of_getElem? (i := 10) rfl))) Via.refl e5 Ft5 (g := (mkF m 36 #[.val (.ref a), .val (.int b), .val (.int d), .val (.double di), .second, .val (.double fa), .second, .val (.double v), .second] [(.ref a)])) rfl rfl (hb hby d9_36)
  obtain ⟨ct, At, St, Ht⟩ := (show own_D Z h5 tA ts from Dt5)
  obtain ⟨T7, h7, L7, X7, e7, A7, N7, z7, K7, st7⟩ := own_stD X6 hx hZ e6 Dt5 gt N5 d dd hd1 hd2 (FP.dadd (ts.getD dd 0) v) (g := (mkF m 45 #[.val (.ref a), .val (.int b), .val (.int d), .val (.double di), .second, .val (.double fa), .second, .val (.double v), .second] [(.double (FP.dadd (ts.getD dd 0) v)), (.int d), (.ref tA)])) rfl rfl (hb hby d9_45)
  have k7 : ∀ z, z ≠ tA → z ∉ [tA] := fun z q => ninS q nin0
  have Dx7 := Dx5.keep K7 (k7 _ (Ne.symm n_t_sd))
  have Ly7 := A5.keep K7 (k7 _ (Ne.symm n_t_cd))
  have Lo7 := Lo5.keep K7 (k7 _ n_o_t)
  have Fo7 := Fo5.keep K7 (k7 _ n_a_t)
  obtain ⟨T8, X8, e8, st8⟩ := getF X7 hx hZ hown (host := "") (Or.inl (hw _ (List.mem_of_getElem? (i := 13) rfl))) Via.refl e7 Fo7 (g := (mkF m 47 #[.val (.ref a), .val (.int b), .val (.int d), .val (.double di), .second, .val (.double fa), .second, .val (.double v), .second] [(.ref a)])) rfl rfl (hb hby d9_47)
  obtain ⟨co, Ao, So, Ho⟩ := (show own_L Z h7 oA os from Lo7)
  obtain ⟨T9, h9, L9, X9, e9, A9, N9, z9, K9, st9⟩ := own_stL X8 hx hZ e8 Lo7 go N7 d dd hd1 hd3 (os.getD dd 0 + 1) (g := (mkF m 55 #[.val (.ref a), .val (.int b), .val (.int d), .val (.double di), .second, .val (.double fa), .second, .val (.double v), .second] [(.int ((os.getD dd 0) + (1 : Int32))), (.int d), (.ref oA)])) rfl rfl (hb hby d9_55)
  have k9 : ∀ z, z ≠ oA → z ∉ [oA] := fun z q => ninS q nin0
  have Dx9 := Dx7.keep K9 (k9 _ (Ne.symm n_o_sd))
  have Ly9 := Ly7.keep K9 (k9 _ (Ne.symm n_o_cd))
  have Dt9 := A7.keep K9 (k9 _ (Ne.symm n_o_t))
  have KK : Keep h0 h9 [sd, cd, tA, oA] := ((((Keep.refl h0 [sd, cd, tA, oA]).trans K3 (allS (Or.inl (List.mem_of_getElem? (i := 0) rfl)) all0)).trans K5 (allS (Or.inl (List.mem_of_getElem? (i := 1) rfl)) all0)).trans K7 (allS (Or.inl (List.mem_of_getElem? (i := 2) rfl)) all0)).trans K9 (allS (Or.inl (List.mem_of_getElem? (i := 3) rfl)) all0)
  obtain ⟨fs, hr, hrun, hended, hW, hsame⟩ := X9.leave (v := none) (fun _ => rfl)
  refine ⟨_, _, castTop (ef_7 m a b d di fa) ?_, hrun, hended, _, _, rfl, ?_, ⟨_, rfl⟩, hW, hsame.mono (by decide) (by decide)⟩
  · show Steps p.tables e below (s₁.setTop (mkF m 0 #[.val (.ref a), .val (.int b), .val (.int d), .val (.double di), .second, .val (.double fa), .second, .unset, .unset] [])) _
    refine XS.dconst0 X0.here hx rfl (hb hby d9_0) rfl ?_
    show Steps p.tables e below (s₁.setTop (mkF m 1 #[.val (.ref a), .val (.int b), .val (.int d), .val (.double di), .second, .val (.double fa), .second, .unset, .unset] [(.double FP.dconst0)])) _
    refine XS.dload X0.here hx rfl (hb hby d9_1) rfl ?_
    show Steps p.tables e below (s₁.setTop (mkF m 3 #[.val (.ref a), .val (.int b), .val (.int d), .val (.double di), .second, .val (.double fa), .second, .unset, .unset] [(.double fa), (.double FP.dconst0)])) _
    refine st1 _ ?_
    show Steps p.tables e below (T1.setTop (mkF m 6 #[.val (.ref a), .val (.int b), .val (.int d), .val (.double di), .second, .val (.double fa), .second, .unset, .unset] [(.double (Jvm.Native.java_lang_Math.nans.pick64 true FP.dconst0 fa))])) _
    refine XS.dloadN X1.here hx rfl (hb hby d9_6) rfl ?_
    show Steps p.tables e below (T1.setTop (mkF m 7 #[.val (.ref a), .val (.int b), .val (.int d), .val (.double di), .second, .val (.double fa), .second, .unset, .unset] [(.double di), (.double (Jvm.Native.java_lang_Math.nans.pick64 true FP.dconst0 fa))])) _
    refine XS.ddivS X1.here hx rfl (hb hby d9_7) rfl hv1 rfl ?_
    rw [← hvv]
    show Steps p.tables e below (T1.setTop (mkF m 8 #[.val (.ref a), .val (.int b), .val (.int d), .val (.double di), .second, .val (.double fa), .second, .unset, .unset] [(.double v)])) _
    refine XS.dstore X1.here hx rfl (hb hby d9_8) rfl (l' := #[.val (.ref a), .val (.int b), .val (.int d), .val (.double di), .second, .val (.double fa), .second, .val (.double v), .second]) rfl ?_
    show Steps p.tables e below (T1.setTop (mkF m 10 #[.val (.ref a), .val (.int b), .val (.int d), .val (.double di), .second, .val (.double fa), .second, .val (.double v), .second] [])) _
    refine XS.aloadN X1.here hx rfl (hb hby d9_10) rfl rfl ?_
    show Steps p.tables e below (T1.setTop (mkF m 11 #[.val (.ref a), .val (.int b), .val (.int d), .val (.double di), .second, .val (.double fa), .second, .val (.double v), .second] [(.ref a)])) _
    refine st2 _ ?_
    show Steps p.tables e below (T2.setTop (mkF m 14 #[.val (.ref a), .val (.int b), .val (.int d), .val (.double di), .second, .val (.double fa), .second, .val (.double v), .second] [(.ref sA)])) _
    refine XS.iloadN X2.here hx rfl (hb hby d9_14) rfl ?_
    show Steps p.tables e below (T2.setTop (mkF m 15 #[.val (.ref a), .val (.int b), .val (.int d), .val (.double di), .second, .val (.double fa), .second, .val (.double v), .second] [(.int d), (.ref sA)])) _
    refine X2.aaload hx (j := d) (v := (.ref sd)) (by rw [e2]; exact As.1) (State.isArrayOf_alike hZ.alike As.2.1) rfl As.2.2 hs1 hs2 (g := (mkF m 15 #[.val (.ref a), .val (.int b), .val (.int d), .val (.double di), .second, .val (.double fa), .second, .val (.double v), .second] [(.int d), (.ref sA)])) rfl rfl (hb hby d9_15) _ ?_
    show Steps p.tables e below (T2.setTop (mkF m 16 #[.val (.ref a), .val (.int b), .val (.int d), .val (.double di), .second, .val (.double fa), .second, .val (.double v), .second] [(.ref sd)])) _
    refine XS.iloadN X2.here hx rfl (hb hby d9_16) rfl ?_
    show Steps p.tables e below (T2.setTop (mkF m 17 #[.val (.ref a), .val (.int b), .val (.int d), .val (.double di), .second, .val (.double fa), .second, .val (.double v), .second] [(.int b), (.ref sd)])) _
    refine Jvm.Free.XT.dup2 X2.here hx rfl (hb hby d9_17) rfl rfl rfl ?_
    show Steps p.tables e below (T2.setTop (mkF m 18 #[.val (.ref a), .val (.int b), .val (.int d), .val (.double di), .second, .val (.double fa), .second, .val (.double v), .second] [(.int b), (.ref sd), (.int b), (.ref sd)])) _
    refine X2.daload hx (j := b) (v := (.double (xs.getD bi 0))) (by rw [e2]; exact Ax.1) (State.isArrayOf_alike hZ.alike Ax.2.1) Ax.2.2 (own_inD Sx hb1 hb2) (own_ldD Hx hb1 hb2) (g := (mkF m 18 #[.val (.ref a), .val (.int b), .val (.int d), .val (.double di), .second, .val (.double fa), .second, .val (.double v), .second] [(.int b), (.ref sd), (.int b), (.ref sd)])) rfl rfl (hb hby d9_18) _ ?_
    show Steps p.tables e below (T2.setTop (mkF m 19 #[.val (.ref a), .val (.int b), .val (.int d), .val (.double di), .second, .val (.double fa), .second, .val (.double v), .second] [(.double (xs.getD bi 0)), (.int b), (.ref sd)])) _
    refine XS.dload X2.here hx rfl (hb hby d9_19) rfl ?_
    show Steps p.tables e below (T2.setTop (mkF m 21 #[.val (.ref a), .val (.int b), .val (.int d), .val (.double di), .second, .val (.double fa), .second, .val (.double v), .second] [(.double v), (.double (xs.getD bi 0)), (.int b), (.ref sd)])) _
    refine XS.daddS X2.here hx rfl (hb hby d9_21) rfl hn1 rfl ?_
    show Steps p.tables e below (T2.setTop (mkF m 22 #[.val (.ref a), .val (.int b), .val (.int d), .val (.double di), .second, .val (.double fa), .second, .val (.double v), .second] [(.double (FP.dadd (xs.getD bi 0) v)), (.int b), (.ref sd)])) _
    refine st3 _ ?_
    show Steps p.tables e below (T3.setTop (mkF m 23 #[.val (.ref a), .val (.int b), .val (.int d), .val (.double di), .second, .val (.double fa), .second, .val (.double v), .second] [])) _
    refine XS.aloadN X3.here hx rfl (hb hby d9_23) rfl rfl ?_
    show Steps p.tables e below (T3.setTop (mkF m 24 #[.val (.ref a), .val (.int b), .val (.int d), .val (.double di), .second, .val (.double fa), .second, .val (.double v), .second] [(.ref a)])) _
    refine st4 _ ?_
    show Steps p.tables e below (T4.setTop (mkF m 27 #[.val (.ref a), .val (.int b), .val (.int d), .val (.double di), .second, .val (.double fa), .second, .val (.double v), .second] [(.ref cA)])) _
    refine XS.iloadN X4.here hx rfl (hb hby d9_27) rfl ?_
    show Steps p.tables e below (T4.setTop (mkF m 28 #[.val (.ref a), .val (.int b), .val (.int d), .val (.double di), .second, .val (.double fa), .second, .val (.double v), .second] [(.int d), (.ref cA)])) _
    refine X4.aaload hx (j := d) (v := (.ref cd)) (by rw [e4]; exact Ac3.1) (State.isArrayOf_alike hZ.alike Ac3.2.1) rfl Ac3.2.2 hc1 hc2 (g := (mkF m 28 #[.val (.ref a), .val (.int b), .val (.int d), .val (.double di), .second, .val (.double fa), .second, .val (.double v), .second] [(.int d), (.ref cA)])) rfl rfl (hb hby d9_28) _ ?_
    show Steps p.tables e below (T4.setTop (mkF m 29 #[.val (.ref a), .val (.int b), .val (.int d), .val (.double di), .second, .val (.double fa), .second, .val (.double v), .second] [(.ref cd)])) _
    refine XS.iloadN X4.here hx rfl (hb hby d9_29) rfl ?_
    show Steps p.tables e below (T4.setTop (mkF m 30 #[.val (.ref a), .val (.int b), .val (.int d), .val (.double di), .second, .val (.double fa), .second, .val (.double v), .second] [(.int b), (.ref cd)])) _
    refine Jvm.Free.XT.dup2 X4.here hx rfl (hb hby d9_30) rfl rfl rfl ?_
    show Steps p.tables e below (T4.setTop (mkF m 31 #[.val (.ref a), .val (.int b), .val (.int d), .val (.double di), .second, .val (.double fa), .second, .val (.double v), .second] [(.int b), (.ref cd), (.int b), (.ref cd)])) _
    refine X4.iaload hx (j := b) (v := (.int (ys.getD bi 0))) (by rw [e4]; exact Ay.1) (State.isArrayOf_alike hZ.alike Ay.2.1) Ay.2.2 (own_inL Sy hb1 hb3) (own_ldL Hy hb1 hb3) (g := (mkF m 31 #[.val (.ref a), .val (.int b), .val (.int d), .val (.double di), .second, .val (.double fa), .second, .val (.double v), .second] [(.int b), (.ref cd), (.int b), (.ref cd)])) rfl rfl (hb hby d9_31) _ ?_
    show Steps p.tables e below (T4.setTop (mkF m 32 #[.val (.ref a), .val (.int b), .val (.int d), .val (.double di), .second, .val (.double fa), .second, .val (.double v), .second] [(.int (ys.getD bi 0)), (.int b), (.ref cd)])) _
    refine XS.iconst X4.here hx rfl (hb hby d9_32) ?_
    show Steps p.tables e below (T4.setTop (mkF m 33 #[.val (.ref a), .val (.int b), .val (.int d), .val (.double di), .second, .val (.double fa), .second, .val (.double v), .second] [(.int (1 : Int32)), (.int (ys.getD bi 0)), (.int b), (.ref cd)])) _
    refine XS.iadd X4.here hx rfl (hb hby d9_33) rfl ?_
    show Steps p.tables e below (T4.setTop (mkF m 34 #[.val (.ref a), .val (.int b), .val (.int d), .val (.double di), .second, .val (.double fa), .second, .val (.double v), .second] [(.int ((ys.getD bi 0) + (1 : Int32))), (.int b), (.ref cd)])) _
    refine st5 _ ?_
    show Steps p.tables e below (T5.setTop (mkF m 35 #[.val (.ref a), .val (.int b), .val (.int d), .val (.double di), .second, .val (.double fa), .second, .val (.double v), .second] [])) _
    refine XS.aloadN X5.here hx rfl (hb hby d9_35) rfl rfl ?_
    show Steps p.tables e below (T5.setTop (mkF m 36 #[.val (.ref a), .val (.int b), .val (.int d), .val (.double di), .second, .val (.double fa), .second, .val (.double v), .second] [(.ref a)])) _
    refine st6 _ ?_
    show Steps p.tables e below (T6.setTop (mkF m 39 #[.val (.ref a), .val (.int b), .val (.int d), .val (.double di), .second, .val (.double fa), .second, .val (.double v), .second] [(.ref tA)])) _
    refine XS.iloadN X6.here hx rfl (hb hby d9_39) rfl ?_
    show Steps p.tables e below (T6.setTop (mkF m 40 #[.val (.ref a), .val (.int b), .val (.int d), .val (.double di), .second, .val (.double fa), .second, .val (.double v), .second] [(.int d), (.ref tA)])) _
    refine Jvm.Free.XT.dup2 X6.here hx rfl (hb hby d9_40) rfl rfl rfl ?_
    show Steps p.tables e below (T6.setTop (mkF m 41 #[.val (.ref a), .val (.int b), .val (.int d), .val (.double di), .second, .val (.double fa), .second, .val (.double v), .second] [(.int d), (.ref tA), (.int d), (.ref tA)])) _
    refine X6.daload hx (j := d) (v := (.double (ts.getD dd 0))) (by rw [e6]; exact At.1) (State.isArrayOf_alike hZ.alike At.2.1) At.2.2 (own_inD St hd1 hd2) (own_ldD Ht hd1 hd2) (g := (mkF m 41 #[.val (.ref a), .val (.int b), .val (.int d), .val (.double di), .second, .val (.double fa), .second, .val (.double v), .second] [(.int d), (.ref tA), (.int d), (.ref tA)])) rfl rfl (hb hby d9_41) _ ?_
    show Steps p.tables e below (T6.setTop (mkF m 42 #[.val (.ref a), .val (.int b), .val (.int d), .val (.double di), .second, .val (.double fa), .second, .val (.double v), .second] [(.double (ts.getD dd 0)), (.int d), (.ref tA)])) _
    refine XS.dload X6.here hx rfl (hb hby d9_42) rfl ?_
    show Steps p.tables e below (T6.setTop (mkF m 44 #[.val (.ref a), .val (.int b), .val (.int d), .val (.double di), .second, .val (.double fa), .second, .val (.double v), .second] [(.double v), (.double (ts.getD dd 0)), (.int d), (.ref tA)])) _
    refine XS.daddS X6.here hx rfl (hb hby d9_44) rfl hn2 rfl ?_
    show Steps p.tables e below (T6.setTop (mkF m 45 #[.val (.ref a), .val (.int b), .val (.int d), .val (.double di), .second, .val (.double fa), .second, .val (.double v), .second] [(.double (FP.dadd (ts.getD dd 0) v)), (.int d), (.ref tA)])) _
    refine st7 _ ?_
    show Steps p.tables e below (T7.setTop (mkF m 46 #[.val (.ref a), .val (.int b), .val (.int d), .val (.double di), .second, .val (.double fa), .second, .val (.double v), .second] [])) _
    refine XS.aloadN X7.here hx rfl (hb hby d9_46) rfl rfl ?_
    show Steps p.tables e below (T7.setTop (mkF m 47 #[.val (.ref a), .val (.int b), .val (.int d), .val (.double di), .second, .val (.double fa), .second, .val (.double v), .second] [(.ref a)])) _
    refine st8 _ ?_
    show Steps p.tables e below (T8.setTop (mkF m 50 #[.val (.ref a), .val (.int b), .val (.int d), .val (.double di), .second, .val (.double fa), .second, .val (.double v), .second] [(.ref oA)])) _
    refine XS.iloadN X8.here hx rfl (hb hby d9_50) rfl ?_
    show Steps p.tables e below (T8.setTop (mkF m 51 #[.val (.ref a), .val (.int b), .val (.int d), .val (.double di), .second, .val (.double fa), .second, .val (.double v), .second] [(.int d), (.ref oA)])) _
    refine Jvm.Free.XT.dup2 X8.here hx rfl (hb hby d9_51) rfl rfl rfl ?_
    show Steps p.tables e below (T8.setTop (mkF m 52 #[.val (.ref a), .val (.int b), .val (.int d), .val (.double di), .second, .val (.double fa), .second, .val (.double v), .second] [(.int d), (.ref oA), (.int d), (.ref oA)])) _
    refine X8.iaload hx (j := d) (v := (.int (os.getD dd 0))) (by rw [e8]; exact Ao.1) (State.isArrayOf_alike hZ.alike Ao.2.1) Ao.2.2 (own_inL So hd1 hd3) (own_ldL Ho hd1 hd3) (g := (mkF m 52 #[.val (.ref a), .val (.int b), .val (.int d), .val (.double di), .second, .val (.double fa), .second, .val (.double v), .second] [(.int d), (.ref oA), (.int d), (.ref oA)])) rfl rfl (hb hby d9_52) _ ?_
    show Steps p.tables e below (T8.setTop (mkF m 53 #[.val (.ref a), .val (.int b), .val (.int d), .val (.double di), .second, .val (.double fa), .second, .val (.double v), .second] [(.int (os.getD dd 0)), (.int d), (.ref oA)])) _
    refine XS.iconst X8.here hx rfl (hb hby d9_53) ?_
    show Steps p.tables e below (T8.setTop (mkF m 54 #[.val (.ref a), .val (.int b), .val (.int d), .val (.double di), .second, .val (.double fa), .second, .val (.double v), .second] [(.int (1 : Int32)), (.int (os.getD dd 0)), (.int d), (.ref oA)])) _
    refine XS.iadd X8.here hx rfl (hb hby d9_54) rfl ?_
    show Steps p.tables e below (T8.setTop (mkF m 55 #[.val (.ref a), .val (.int b), .val (.int d), .val (.double di), .second, .val (.double fa), .second, .val (.double v), .second] [(.int ((os.getD dd 0) + (1 : Int32))), (.int d), (.ref oA)])) _
    refine st9 _ ?_
    show Steps p.tables e below (T9.setTop (mkF m 56 #[.val (.ref a), .val (.int b), .val (.int d), .val (.double di), .second, .val (.double fa), .second, .val (.double v), .second] [])) _
    exact X9.returnOut hx Bd.returns (hb hby d9_56) hr
  · exact ⟨v, hvv, rfl, N9, by rw [show (T9.setFrames fs).heap = h9 from e9]; exact KK, by rw [show (T9.setFrames fs).heap = h9 from e9]; exact Dx9, by rw [show (T9.setFrames fs).heap = h9 from e9]; exact Ly9, by rw [show (T9.setFrames fs).heap = h9 from e9]; exact Dt9, by rw [show (T9.setFrames fs).heap = h9 from e9]; exact A9⟩
def own_ch (n0 : Nat) (a tA oA sA x0 x1 cA y0 y1 : Nat) : Prop := n0 ≤ a ∧ a < tA ∧ tA < oA ∧ oA < sA ∧ sA < x0 ∧ x0 < x1 ∧ x1 < cA ∧ cA < y0 ∧ y0 < y1
def own_P (Z : State) (h : Heap) (a tA oA sA x0 x1 cA y0 y1 : Nat) (S : List (Int32 × Int32 × UInt64)) : Prop := Exa Z h a "com/example/bundlewright/bundlewright/Pseudocosts" ∧ Fld Z h a "com/example/bundlewright/bundlewright/Pseudocosts" "total" "[D" (.ref tA) ∧ Fld Z h a "com/example/bundlewright/bundlewright/Pseudocosts" "observations" "[I" (.ref oA) ∧ Fld Z h a "com/example/bundlewright/bundlewright/Pseudocosts" "sum" "[[D" (.ref sA) ∧ Fld Z h a "com/example/bundlewright/bundlewright/Pseudocosts" "count" "[[I" (.ref cA) ∧ own_F Z h sA .double x0 x1 ∧ own_F Z h cA .int y0 y1 ∧ own_D Z h tA (own_tots S) ∧ own_L Z h oA (own_obss S) ∧ own_D Z h x0 (own_row S 0) ∧ own_D Z h x1 (own_row S 1) ∧ own_L Z h y0 (own_crow S 0) ∧ own_L Z h y1 (own_crow S 1)
theorem own_ns {x y : Nat} {L : List Nat} (q : x ≠ y) (r : x ∉ L) : x ∉ y :: L := fun z => (List.mem_cons.mp z).elim q r
theorem own_n0 {x : Nat} : x ∉ ([] : List Nat) := fun q => nomatch q
def own_r (d : Int32) (x y : Nat) : Nat := if d = 0 then x else y
theorem own_rowD {Z : State} {h : Heap} {x0 x1 : Nat} {S : List (Int32 × Int32 × UInt64)} {d : Int32} (hd : d = 0 ∨ d = 1) (A : own_D Z h x0 (own_row S 0)) (B : own_D Z h x1 (own_row S 1)) : own_D Z h (own_r d x0 x1) (own_row S d) := by
  rcases hd with rfl | rfl
  · exact A
  · exact B
theorem own_rowL {Z : State} {h : Heap} {x0 x1 : Nat} {S : List (Int32 × Int32 × UInt64)} {d : Int32} (hd : d = 0 ∨ d = 1) (A : own_L Z h x0 (own_crow S 0)) (B : own_L Z h x1 (own_crow S 1)) : own_L Z h (own_r d x0 x1) (own_crow S d) := by
  rcases hd with rfl | rfl
  · exact A
  · exact B
theorem own_r_or (d : Int32) (x y : Nat) : own_r d x y = x ∨ own_r d x y = y := by unfold own_r; split <;> simp
theorem own_P_step {Z : State} {h h' : Heap} {n0 : Nat} {a tA oA sA x0 x1 cA y0 y1 : Nat} {S : List (Int32 × Int32 × UInt64)} {b d : Int32} {v : UInt64} (A : own_P Z h a tA oA sA x0 x1 cA y0 y1 S) (ch : own_ch n0 a tA oA sA x0 x1 cA y0 y1) (hB : b = 0 ∨ b = 1 ∨ b = 2) (hd : d = 0 ∨ d = 1) (K : Keep h h' [own_r d x0 x1, own_r d y0 y1, tA, oA])
    (D1 : own_D Z h' (own_r d x0 x1) ((own_row S d).set b.toNatClampNeg (FP.dadd ((own_row S d).getD b.toNatClampNeg 0) v))) (L1 : own_L Z h' (own_r d y0 y1) ((own_crow S d).set b.toNatClampNeg ((own_crow S d).getD b.toNatClampNeg 0 + 1)))
    (D2 : own_D Z h' tA ((own_tots S).set d.toNatClampNeg (FP.dadd ((own_tots S).getD d.toNatClampNeg 0) v))) (L2 : own_L Z h' oA ((own_obss S).set d.toNatClampNeg ((own_obss S).getD d.toNatClampNeg 0 + 1))) : own_P Z h' a tA oA sA x0 x1 cA y0 y1 (S ++ [(b, d, v)]) := by
  obtain ⟨p1, p2, p3, p4, p5, p6, p7, p8, p9, p10, p11, p12, p13⟩ := A
  obtain ⟨c1, c2, c3, c4, c5, c6, c7, c8, c9⟩ := ch
  rw [own_row_at S d hB, own_row_hit S d v hB] at D1
  rw [own_crow_at S d hB, own_crow_hit S d v hB] at L1
  rw [own_tots_at S hd, own_tots_hit S b v hd] at D2
  rw [own_obss_at S hd, own_obss_hit S b v hd] at L2
  have r1 := own_r_or d x0 x1
  have r2 := own_r_or d y0 y1
  have na : a ∉ [own_r d x0 x1, own_r d y0 y1, tA, oA] := own_ns (by omega) (own_ns (by omega) (own_ns (by omega) (own_ns (by omega) own_n0)))
  have ns : sA ∉ [own_r d x0 x1, own_r d y0 y1, tA, oA] := own_ns (by omega) (own_ns (by omega) (own_ns (by omega) (own_ns (by omega) own_n0)))
  have nc : cA ∉ [own_r d x0 x1, own_r d y0 y1, tA, oA] := own_ns (by omega) (own_ns (by omega) (own_ns (by omega) (own_ns (by omega) own_n0)))
  refine ⟨p1.keep K, p2.keep K na, p3.keep K na, p4.keep K na, p5.keep K na, p6.keep K ns, p7.keep K nc, D2, L2, ?_, ?_, ?_, ?_⟩
  · rcases hd with rfl | rfl
    · exact D1
    · rw [own_row_miss S b v (by decide)]
      exact p10.keep K (own_ns (show x0 ≠ x1 by omega) (own_ns (show x0 ≠ y1 by omega) (own_ns (by omega) (own_ns (by omega) own_n0))))
  · rcases hd with rfl | rfl
    · rw [own_row_miss S b v (by decide)]
      exact p11.keep K (own_ns (show x1 ≠ x0 by omega) (own_ns (show x1 ≠ y0 by omega) (own_ns (by omega) (own_ns (by omega) own_n0))))
    · exact D1
  · rcases hd with rfl | rfl
    · exact L1
    · rw [own_crow_miss S b v (by decide)]
      exact p12.keep K (own_ns (show y0 ≠ x1 by omega) (own_ns (show y0 ≠ y1 by omega) (own_ns (by omega) (own_ns (by omega) own_n0))))
  · rcases hd with rfl | rfl
    · rw [own_crow_miss S b v (by decide)]
      exact p13.keep K (own_ns (show y1 ≠ x0 by omega) (own_ns (show y1 ≠ y0 by omega) (own_ns (by omega) (own_ns (by omega) own_n0))))
    · exact L1
def own_rec (q1 : Int64) : Int32 × Int32 × UInt64 := (own_bid_f0 q1, own_dir_f0 q1, own_val q1)
theorem ef_8 (m : MethodId) (x0 : Addr) (x1 : Int64) : entryFrame m #[(.ref x0), (.long x1)] 3 = mkF m 0 #[.val (.ref x0), .val (.long x1), .second] [] := by first | (simp [entryFrame, mkF, argsToLocals, Value.category]; done) | rfl
def Q8 (Z : State) (a tA oA sA x0 x1 cA y0 y1 : Nat) (q1 : Int64) (S : List (Int32 × Int32 × UInt64)) (h0 : Heap) (n0 : Nat) (vv : Option Value) (h : Heap) (L : List Loc) : Prop := vv = none ∧ Fr n0 L ∧ own_P Z h a tA oA sA x0 x1 cA y0 y1 (S ++ [own_rec q1]) ∧ h0.size ≤ h.size
set_option maxRecDepth 65536 in
set_option maxHeartbeats 40000000 in
theorem rm8 (l : Launch) (Z : State) (a0 : Array Value) (hw : ∀ d ∈ tables_1, d.before a0 Z = true) (ws' : List Jvm.Cond) (a tA oA sA x0 x1 cA y0 y1 : Nat) (q1 : Int64) (S : List (Int32 × Int32 × UInt64)) (h0 : Heap) (n0 : Nat) (Z0 : n0 ≤ h0.size) (A : own_P Z h0 a tA oA sA x0 x1 cA y0 y1 S) (ch : own_ch n0 a tA oA sA x0 x1 cA y0 y1) (hS : own_small S) :
    MetFree l (⟨"com/example/bundlewright/bundlewright/PseudocostsPerUnitPinLaw", "rec", "(Lcom/example/bundlewright/bundlewright/Pseudocosts;J)V"⟩ : MethodName) (head1 (Jvm.Cond.code (⟨"com/example/bundlewright/bundlewright/PseudocostsPerUnitPinLaw", "rec", "(Lcom/example/bundlewright/bundlewright/Pseudocosts;J)V"⟩ : MethodName) method_8_code 3 none :: ws') ({ frames := 2, cells := 0, slots := 0, locals := 35 } : Room)) (fun aa U => aa = #[(.ref a), (.long q1)] ∧ Z.Warmed39 U.vm ∧ U.heap = h0) (fun _ _ _ _ _ => True) (fun _ U o U' => ∃ vv L, o = .returned vv ∧ Q8 Z a tA oA sA x0 x1 cA y0 y1 q1 S h0 n0 vv U'.heap L ∧ FrameEnd U o U' L (({ frames := 2, cells := 0, slots := 0, locals := 35 } : Room)).cells (({ frames := 2, cells := 0, slots := 0, locals := 35 } : Room)).slots) := by
  refine MetFree.of_bodySF (plainFor_of_name pn_L) hisR ?_
  intro p e s m args below meth c s₁ Bd hml0 hP hK
  obtain ⟨rfl, hZ, hh⟩ := hP
  have hx := Bd.exec
  have hby := Bd.bytes
  have hml : c.maxLocals = 3 := hml0
  have hown : s.vm.findClass "com/example/bundlewright/bundlewright/PseudocostsPerUnitPinLaw" = some m.cls := findClass_of_methodNamed Bd.named
  have hnm := (name_of_methodNamed Bd.named Bd.method).1
  have X0 : Stand p l e ({ frames := 2, cells := 0, slots := 0, locals := 35 } : Room) s m #[(.ref a), (.long q1)] below meth c s₁ [] 0 0 := Stand.of_body Bd
  have e0 : s₁.heap = h0 := by rw [← hh, Bd.state]; rfl
  have N0 := Fr.nil n0
  obtain ⟨_, _, ⟨T1, L1, k1, n1⟩, -, X1, ⟨Lc1, hQ1, l1, y1, z1⟩, st1⟩ := Jvm.LawKit.callS X0 hx (y := (⟨"com/example/bundlewright/bundlewright/PseudocostsPerUnitPinLaw", "bid", "(J)I"⟩ : MethodName)) hown (mvT hZ (hw _ (List.mem_of_getElem? (i := 32) rfl))) (mvT hZ (hw _ (List.mem_of_getElem? (i := 33) rfl))) (mvT hZ (hw _ (List.mem_of_getElem? (i := 30) rfl))) (mvT hZ (hw _ (List.mem_of_getElem? (i := 34) rfl))) (by decide) (backOf (W := 1) (rm2 l Z a0 hw [] q1 h0 n0 Z0) hZ (hw _ (List.mem_of_getElem? (i := 34) rfl)) (hw _ (List.mem_of_getElem? (i := 30) rfl)) (by decide) (by decide)) (g := (mkF m 2 #[.val (.ref a), .val (.long q1), .second] [(.long q1), (.ref a)])) rfl (by rw [hml]; rfl) (argsL := [(.long q1)]) (rest := [(.ref a)]) (lenOf (show parseMethodDescriptor "(J)I" = some ⟨[.long], (some .int)⟩ from by decide +kernel) rfl) rfl (by show 2 * 0 + _ ≤ _; exact Nat.le_of_eq rfl) (hb hby d4_2) (fun _ _ => ⟨rfl, e0, (by decide : 0 + 0 ≤ _), (by decide : 0 + 0 ≤ _)⟩)
  dsimp only [Pt.U, Pt.locs, Pt.cells, Pt.slots] at X1 l1 y1 z1 st1 hQ1
  subst l1 y1 z1
  obtain ⟨rfl, N1q, e1⟩ := hQ1
  have N1 := Fr.app N0 N1q
  obtain ⟨_, _, ⟨T2, L2, k2, n2⟩, -, X2, ⟨Lc2, hQ2, l2, y2, z2⟩, st2⟩ := Jvm.LawKit.callS X1 hx (y := (⟨"com/example/bundlewright/bundlewright/PseudocostsPerUnitPinLaw", "dir", "(J)I"⟩ : MethodName)) hown (mvT hZ (hw _ (List.mem_of_getElem? (i := 36) rfl))) (mvT hZ (hw _ (List.mem_of_getElem? (i := 37) rfl))) (mvT hZ (hw _ (List.mem_of_getElem? (i := 30) rfl))) (mvT hZ (hw _ (List.mem_of_getElem? (i := 38) rfl))) (by decide) (backOf (W := 2) (rm3 l Z a0 hw [] q1 h0 n0 Z0) hZ (hw _ (List.mem_of_getElem? (i := 38) rfl)) (hw _ (List.mem_of_getElem? (i := 30) rfl)) (by decide) (by decide)) (g := (mkF m 6 #[.val (.ref a), .val (.long q1), .second] [(.long q1), (.int (own_bid_f0 q1)), (.ref a)])) rfl (by rw [hml]; rfl) (argsL := [(.long q1)]) (rest := [(.int (own_bid_f0 q1)), (.ref a)]) (lenOf (show parseMethodDescriptor "(J)I" = some ⟨[.long], (some .int)⟩ from by decide +kernel) rfl) rfl (by show 2 * 0 + _ ≤ _; exact Nat.le_of_eq rfl) (hb hby d4_6) (fun _ _ => ⟨rfl, e1, (by decide : 0 + 0 ≤ _), (by decide : 0 + 0 ≤ _)⟩)
  dsimp only [Pt.U, Pt.locs, Pt.cells, Pt.slots] at X2 l2 y2 z2 st2 hQ2
  subst l2 y2 z2
  obtain ⟨rfl, N2q, e2⟩ := hQ2
  have N2 := Fr.app N1 N2q
  obtain ⟨_, _, ⟨T3, L3, k3, n3⟩, -, X3, ⟨Lc3, hQ3, l3, y3, z3⟩, st3⟩ := Jvm.LawKit.callS X2 hx (y := (⟨"com/example/bundlewright/bundlewright/PseudocostsPerUnitPinLaw", "dist", "(J)D"⟩ : MethodName)) hown (mvT hZ (hw _ (List.mem_of_getElem? (i := 39) rfl))) (mvT hZ (hw _ (List.mem_of_getElem? (i := 40) rfl))) (mvT hZ (hw _ (List.mem_of_getElem? (i := 30) rfl))) (mvT hZ (hw _ (List.mem_of_getElem? (i := 41) rfl))) (by decide) (backOf (W := 3) (rm5 l Z a0 hw [] q1 h0 n0 Z0) hZ (hw _ (List.mem_of_getElem? (i := 41) rfl)) (hw _ (List.mem_of_getElem? (i := 30) rfl)) (by decide) (by decide)) (g := (mkF m 10 #[.val (.ref a), .val (.long q1), .second] [(.long q1), (.int (own_dir_f0 q1)), (.int (own_bid_f0 q1)), (.ref a)])) rfl (by rw [hml]; rfl) (argsL := [(.long q1)]) (rest := [(.int (own_dir_f0 q1)), (.int (own_bid_f0 q1)), (.ref a)]) (lenOf (show parseMethodDescriptor "(J)D" = some ⟨[.long], (some .double)⟩ from by decide +kernel) rfl) rfl (by show 2 * 0 + _ ≤ _; exact Nat.le_of_eq rfl) (hb hby d4_10) (fun _ _ => ⟨rfl, e2, (by decide : 0 + 0 ≤ _), (by decide : 0 + 0 ≤ _)⟩)
  dsimp only [Pt.U, Pt.locs, Pt.cells, Pt.slots] at X3 l3 y3 z3 st3 hQ3
  subst l3 y3 z3
  obtain ⟨rfl, N3q, e3⟩ := hQ3
  have N3 := Fr.app N2 N3q
  obtain ⟨_, _, ⟨T4, L4, k4, n4⟩, -, X4, ⟨Lc4, hQ4, l4, y4, z4⟩, st4⟩ := Jvm.LawKit.callS X3 hx (y := (⟨"com/example/bundlewright/bundlewright/PseudocostsPerUnitPinLaw", "fall", "(J)I"⟩ : MethodName)) hown (mvT hZ (hw _ (List.mem_of_getElem? (i := 42) rfl))) (mvT hZ (hw _ (List.mem_of_getElem? (i := 43) rfl))) (mvT hZ (hw _ (List.mem_of_getElem? (i := 30) rfl))) (mvT hZ (hw _ (List.mem_of_getElem? (i := 44) rfl))) (by decide) (backOf (W := 5) (rm4 l Z a0 hw [] q1 h0 n0 Z0) hZ (hw _ (List.mem_of_getElem? (i := 44) rfl)) (hw _ (List.mem_of_getElem? (i := 30) rfl)) (by decide) (by decide)) (g := (mkF m 14 #[.val (.ref a), .val (.long q1), .second] [(.long q1), (.double (own_dist q1)), (.int (own_dir_f0 q1)), (.int (own_bid_f0 q1)), (.ref a)])) rfl (by rw [hml]; rfl) (argsL := [(.long q1)]) (rest := [(.double (own_dist q1)), (.int (own_dir_f0 q1)), (.int (own_bid_f0 q1)), (.ref a)]) (lenOf (show parseMethodDescriptor "(J)I" = some ⟨[.long], (some .int)⟩ from by decide +kernel) rfl) rfl (by show 2 * 0 + _ ≤ _; exact Nat.le_of_eq rfl) (hb hby d4_14) (fun _ _ => ⟨rfl, e3, (by decide : 0 + 0 ≤ _), (by decide : 0 + 0 ≤ _)⟩)
  dsimp only [Pt.U, Pt.locs, Pt.cells, Pt.slots] at X4 l4 y4 z4 st4 hQ4
  subst l4 y4 z4
  obtain ⟨rfl, N4q, e4⟩ := hQ4
  have N4 := Fr.app N3 N4q
  obtain ⟨p1, p2, p3, p4, p5, p6, p7, p8, p9, p10, p11, p12, p13⟩ := (show own_P Z h0 a tA oA sA x0 x1 cA y0 y1 S from A)
  obtain ⟨c1, c2, c3, c4, c5, c6, c7, c8, c9⟩ := (show own_ch n0 a tA oA sA x0 x1 cA y0 y1 from ch)
  have hB := own_bid_r q1
  have hd := own_dir_r q1
  obtain ⟨cls, As, hs1, hs2⟩ := p6.row hd
  obtain ⟨clc, Ac, hc1, hc2⟩ := p7.row hd
  have r1 := own_r_or (own_dir_f0 q1) x0 x1
  have r2 := own_r_or (own_dir_f0 q1) y0 y1
  have hvv : own_val q1 = FP.ddiv (Jvm.Native.java_lang_Math.nans.pick64 true FP.dconst0 (FP.i2d (own_fall_f0 q1))) (own_dist q1) := by unfold own_val own_g; rw [own_pick]
  have hv1 := own_val_nn q1
  rw [hvv] at hv1
  have hn1 : Fl.NoNaN64 (FP.dadd ((own_row S (own_dir_f0 q1)).getD (own_bid_f0 q1).toNatClampNeg 0) (own_val q1)) := by rw [own_row_at S _ hB]; exact own_add_nn (own_sum_mag hS _ _) (own_val_mag q1)
  have hn2 : Fl.NoNaN64 (FP.dadd ((own_tots S).getD (own_dir_f0 q1).toNatClampNeg 0) (own_val q1)) := by rw [own_tots_at S hd]; exact own_add_nn (own_tot_mag hS _) (own_val_mag q1)
  obtain ⟨cq5, kq5, q5a, q5b, q5c⟩ := isOf hZ e4 p1
  obtain ⟨_, _, ⟨T5, L5, k5, n5⟩, -, X5, ⟨Lc5, hQ5, l5, y5, z5⟩, st5⟩ := X4.virtualBack hx (y := (⟨"com/example/bundlewright/bundlewright/Pseudocosts", "record", "(IIDD)V"⟩ : MethodName)) (z := (⟨"com/example/bundlewright/bundlewright/Pseudocosts", "record", "(IIDD)V"⟩ : MethodName)) hown (mvT hZ (hw _ (List.mem_of_getElem? (i := 45) rfl))) (mvT hZ (hw _ (List.mem_of_getElem? (i := 46) rfl))) (notFace_of_selects (args := #[]) (mvT hZ (hw _ (List.mem_of_getElem? (i := 48) rfl)))) (mvT hZ (hw _ (List.mem_of_getElem? (i := 48) rfl))) (mvT hZ (hw _ (List.mem_of_getElem? (i := 47) rfl))) (by decide) (backOf (W := 0) (rm7 l Z a0 hw [] a (own_bid_f0 q1) (own_dir_f0 q1) (own_dist q1) (FP.i2d (own_fall_f0 q1)) sA cA tA oA (own_r (own_dir_f0 q1) x0 x1) (own_r (own_dir_f0 q1) y0 y1) (own_row S (own_dir_f0 q1)) (own_tots S) (own_crow S (own_dir_f0 q1)) (own_obss S) (own_bid_f0 q1).toNatClampNeg (own_dir_f0 q1).toNatClampNeg h0 n0 Z0 (own_val q1) hvv (Fl.i2d_fin _).noNaN hv1 p4 p5 p2 p3 cls As hs1 hs2 clc Ac hc1 hc2 (own_rowD hd p10 p11) (own_rowL hd p12 p13) p8 p9 (own_ni hB).1 (own_ni hB).2 (own_ni hB).2 (own_nd hd).1 (own_nd hd).2 (own_nd hd).2 hn1 hn2 (by omega) (by omega) (by omega) (by omega) (by omega) (by omega) (by omega) (by omega) (by omega) (by omega) (by omega) (by omega) (by omega) (by omega)) hZ (hw _ (List.mem_of_getElem? (i := 49) rfl)) (hw _ (List.mem_of_getElem? (i := 2) rfl)) (by decide) (by decide)) q5a q5c (g := (mkF m 18 #[.val (.ref a), .val (.long q1), .second] [(.double (FP.i2d (own_fall_f0 q1))), (.double (own_dist q1)), (.int (own_dir_f0 q1)), (.int (own_bid_f0 q1)), (.ref a)])) rfl (by rw [hml]; rfl) (Steps.refl _) (argsL := [(.int (own_bid_f0 q1)), (.int (own_dir_f0 q1)), (.double (own_dist q1)), (.double (FP.i2d (own_fall_f0 q1)))]) (rest := []) (lenOf (show parseMethodDescriptor "(IIDD)V" = some ⟨[.int, .int, .double, .double], none⟩ from by decide +kernel) rfl) rfl (by show 2 * 0 + _ ≤ _; exact Nat.le_of_eq rfl) (hb hby d4_18) (fun _ _ => ⟨rfl, e4, (by decide : 0 + 0 ≤ _), (by decide : 0 + 0 ≤ _)⟩)
  dsimp only [Pt.U, Pt.locs, Pt.cells, Pt.slots] at X5 l5 y5 z5 st5 hQ5
  subst l5 y5 z5
  obtain ⟨v, hv, rfl, N5q, K5, D5, L5', Dt5, Lo5⟩ := hQ5
  obtain rfl : v = own_val q1 := hv.trans hvv.symm
  have N5 := Fr.app N4 N5q
  obtain ⟨fs, hr, hrun, hended, hW, hsame⟩ := X5.leave (v := none) (fun _ => rfl)
  refine ⟨_, _, castTop (ef_8 m a q1) ?_, hrun, hended, _, _, rfl, ?_, ⟨_, rfl⟩, hW, hsame.mono (by decide) (by decide)⟩
  · show Steps p.tables e below (s₁.setTop (mkF m 0 #[.val (.ref a), .val (.long q1), .second] [])) _
    refine XS.aloadN X0.here hx rfl (hb hby d4_0) rfl rfl ?_
    show Steps p.tables e below (s₁.setTop (mkF m 1 #[.val (.ref a), .val (.long q1), .second] [(.ref a)])) _
    refine XS.lloadN X0.here hx rfl (hb hby d4_1) rfl ?_
    show Steps p.tables e below (s₁.setTop (mkF m 2 #[.val (.ref a), .val (.long q1), .second] [(.long q1), (.ref a)])) _
    refine st1 _ ?_
    show Steps p.tables e below (T1.setTop (mkF m 5 #[.val (.ref a), .val (.long q1), .second] [(.int (own_bid_f0 q1)), (.ref a)])) _
    refine XS.lloadN X1.here hx rfl (hb hby d4_5) rfl ?_
    show Steps p.tables e below (T1.setTop (mkF m 6 #[.val (.ref a), .val (.long q1), .second] [(.long q1), (.int (own_bid_f0 q1)), (.ref a)])) _
    refine st2 _ ?_
    show Steps p.tables e below (T2.setTop (mkF m 9 #[.val (.ref a), .val (.long q1), .second] [(.int (own_dir_f0 q1)), (.int (own_bid_f0 q1)), (.ref a)])) _
    refine XS.lloadN X2.here hx rfl (hb hby d4_9) rfl ?_
    show Steps p.tables e below (T2.setTop (mkF m 10 #[.val (.ref a), .val (.long q1), .second] [(.long q1), (.int (own_dir_f0 q1)), (.int (own_bid_f0 q1)), (.ref a)])) _
    refine st3 _ ?_
    show Steps p.tables e below (T3.setTop (mkF m 13 #[.val (.ref a), .val (.long q1), .second] [(.double (own_dist q1)), (.int (own_dir_f0 q1)), (.int (own_bid_f0 q1)), (.ref a)])) _
    refine XS.lloadN X3.here hx rfl (hb hby d4_13) rfl ?_
    show Steps p.tables e below (T3.setTop (mkF m 14 #[.val (.ref a), .val (.long q1), .second] [(.long q1), (.double (own_dist q1)), (.int (own_dir_f0 q1)), (.int (own_bid_f0 q1)), (.ref a)])) _
    refine st4 _ ?_
    show Steps p.tables e below (T4.setTop (mkF m 17 #[.val (.ref a), .val (.long q1), .second] [(.int (own_fall_f0 q1)), (.double (own_dist q1)), (.int (own_dir_f0 q1)), (.int (own_bid_f0 q1)), (.ref a)])) _
    refine XS.i2dS X4.here hx rfl (hb hby d4_17) rfl rfl ?_
    show Steps p.tables e below (T4.setTop (mkF m 18 #[.val (.ref a), .val (.long q1), .second] [(.double (FP.i2d (own_fall_f0 q1))), (.double (own_dist q1)), (.int (own_dir_f0 q1)), (.int (own_bid_f0 q1)), (.ref a)])) _
    refine st5.trans ?_
    show Steps p.tables e below (T5.setTop (mkF m 21 #[.val (.ref a), .val (.long q1), .second] [])) _
    exact X5.returnOut hx Bd.returns (hb hby d4_21) hr
  · exact ⟨rfl, N5, own_P_step A ch hB hd K5 D5 L5' Dt5 Lo5, K5.1⟩
theorem ef_9 (m : MethodId) (x0 : Addr) (x1 x2 : Int32) : entryFrame m #[(.ref x0), (.int x1), (.int x2)] 3 = mkF m 0 #[.val (.ref x0), .val (.int x1), .val (.int x2)] [] := by first | (simp [entryFrame, mkF, argsToLocals, Value.category]; done) | rfl
def Q9 (a tA oA sA x0 x1 cA y0 y1 : Nat) (b d : Int32) (S : List (Int32 × Int32 × UInt64)) (h0 : Heap) (n0 : Nat) (vv : Option Value) (h : Heap) (L : List Loc) : Prop := vv = some (.double (own_per (own_cnt S d b) (own_sum S d b) (own_obs S d) (own_tot S d))) ∧ Fr n0 L ∧ h = h0
set_option maxRecDepth 65536 in
set_option maxHeartbeats 40000000 in
theorem rm9 (l : Launch) (Z : State) (a0 : Array Value) (hw : ∀ d ∈ tables_1, d.before a0 Z = true) (ws' : List Jvm.Cond) (a tA oA sA x0 x1 cA y0 y1 : Nat) (b d : Int32) (S : List (Int32 × Int32 × UInt64)) (h0 : Heap) (n0 : Nat) (Z0 : n0 ≤ h0.size) (A : own_P Z h0 a tA oA sA x0 x1 cA y0 y1 S) (hB : b = 0 ∨ b = 1 ∨ b = 2) (hd : d = 0 ∨ d = 1) (hS : own_small S) :
    MetFree l (⟨"com/example/bundlewright/bundlewright/Pseudocosts", "perUnit", "(II)D"⟩ : MethodName) (head1 (Jvm.Cond.code (⟨"com/example/bundlewright/bundlewright/Pseudocosts", "perUnit", "(II)D"⟩ : MethodName) prog_75_method_4_code 3 (some .double) :: ws') ({ frames := 0, cells := 0, slots := 0, locals := 0 } : Room)) (fun aa U => aa = #[(.ref a), (.int b), (.int d)] ∧ Z.Warmed39 U.vm ∧ U.heap = h0) (fun _ _ _ _ _ => True) (fun _ U o U' => ∃ vv L, o = .returned vv ∧ Q9 a tA oA sA x0 x1 cA y0 y1 b d S h0 n0 vv U'.heap L ∧ FrameEnd U o U' L (({ frames := 0, cells := 0, slots := 0, locals := 0 } : Room)).cells (({ frames := 0, cells := 0, slots := 0, locals := 0 } : Room)).slots) := by
  refine MetFree.of_bodySF (plainFor_of_name pn_P) hisR ?_
  intro p e s m args below meth c s₁ Bd hml0 hP hK
  obtain ⟨rfl, hZ, hh⟩ := hP
  have hx := Bd.exec
  have hby := Bd.bytes
  have hml : c.maxLocals = 3 := hml0
  have hown : s.vm.findClass "com/example/bundlewright/bundlewright/Pseudocosts" = some m.cls := findClass_of_methodNamed Bd.named
  have hnm := (name_of_methodNamed Bd.named Bd.method).1
  have X0 : Stand p l e ({ frames := 0, cells := 0, slots := 0, locals := 0 } : Room) s m #[(.ref a), (.int b), (.int d)] below meth c s₁ [] 0 0 := Stand.of_body Bd
  have e0 : s₁.heap = h0 := by rw [← hh, Bd.state]; rfl
  have N0 := Fr.nil n0
  obtain ⟨p1, p2, p3, p4, p5, p6, p7, p8, p9, p10, p11, p12, p13⟩ := A
  obtain ⟨cls, As, hs1, hs2⟩ := p6.row hd
  obtain ⟨clc, Ac, hc1, hc2⟩ := p7.row hd
  obtain ⟨cx, Ax, Sx, Hx⟩ := own_rowD hd p10 p11
  obtain ⟨cy, Ay, Sy, Hy⟩ := own_rowL hd p12 p13
  obtain ⟨ct, At, St, Ht⟩ := p8
  obtain ⟨co, Ao, So, Ho⟩ := p9
  have hx1 := own_inD Sx (own_ni hB).1 (own_ni hB).2
  have hx2 := own_ldD Hx (own_ni hB).1 (own_ni hB).2
  rw [own_row_at S d hB] at hx2
  have hy1 := own_inL Sy (own_ni hB).1 (own_ni hB).2
  have hy2 := own_ldL Hy (own_ni hB).1 (own_ni hB).2
  rw [own_crow_at S d hB] at hy2
  have ht1 := own_inD St (own_nd hd).1 (own_nd hd).2
  have ht2 := own_ldD Ht (own_nd hd).1 (own_nd hd).2
  rw [own_tots_at S hd] at ht2
  have ho1 := own_inL So (own_nd hd).1 (own_nd hd).2
  have ho2 := own_ldL Ho (own_nd hd).1 (own_nd hd).2
  rw [own_obss_at S hd] at ho2
  have nsm := ((own_sum_mag hS d b).fin (by decide)).noNaN
  have ntt := ((own_tot_mag hS d).fin (by decide)).noNaN
  obtain ⟨T1, X1, e1, st1⟩ := getF X0 hx hZ hown (host := "") (Or.inl (hw _ (List.mem_of_getElem? (i := 21) rfl))) Via.refl e0 p5 (g := (mkF m 1 #[.val (.ref a), .val (.int b), .val (.int d)] [(.ref a)])) rfl rfl (hb hby d3_1)
  by_cases hc : 0 < (own_cnt S d b)
  · obtain ⟨T2, X2, e2, st2⟩ := getF X1 hx hZ hown (host := "") (Or.inl (hw _ (List.mem_of_getElem? (i := 17) rfl))) Via.refl e1 p4 (g := (mkF m 12 #[.val (.ref a), .val (.int b), .val (.int d)] [(.ref a)])) rfl rfl (hb hby d3_12)
    obtain ⟨T3, X3, e3, st3⟩ := getF X2 hx hZ hown (host := "") (Or.inl (hw _ (List.mem_of_getElem? (i := 21) rfl))) Via.refl e2 p5 (g := (mkF m 20 #[.val (.ref a), .val (.int b), .val (.int d)] [(.ref a), (.double (own_sum S d b))])) rfl rfl (hb hby d3_20)
    have hval : own_per (own_cnt S d b) (own_sum S d b) (own_obs S d) (own_tot S d) = (FP.ddiv (own_sum S d b) (FP.i2d (own_cnt S d b))) := by unfold own_per; rw [if_pos hc]
    obtain ⟨fs, hr, hrun, hended, hW, hsame⟩ := X3.leave (v := some (.double (FP.ddiv (own_sum S d b) (FP.i2d (own_cnt S d b))))) (fun h => by rw [Bd.returns] at h; cases h)
    refine ⟨_, _, castTop (ef_9 m a b d) ?_, hrun, hended, _, _, rfl, ?_, ⟨_, rfl⟩, hW, hsame.mono (by decide) (by decide)⟩
    · show Steps p.tables e below (s₁.setTop (mkF m 0 #[.val (.ref a), .val (.int b), .val (.int d)] [])) _
      refine XS.aloadN X0.here hx rfl (hb hby d3_0) rfl rfl ?_
      show Steps p.tables e below (s₁.setTop (mkF m 1 #[.val (.ref a), .val (.int b), .val (.int d)] [(.ref a)])) _
      refine st1 _ ?_
      show Steps p.tables e below (T1.setTop (mkF m 4 #[.val (.ref a), .val (.int b), .val (.int d)] [(.ref cA)])) _
      refine XS.iloadN X1.here hx rfl (hb hby d3_4) rfl ?_
      show Steps p.tables e below (T1.setTop (mkF m 5 #[.val (.ref a), .val (.int b), .val (.int d)] [(.int d), (.ref cA)])) _
      refine X1.aaload hx (j := d) (v := (.ref (own_r d y0 y1))) (by rw [e1]; exact Ac.1) (State.isArrayOf_alike hZ.alike Ac.2.1) rfl Ac.2.2 hc1 hc2 (g := (mkF m 5 #[.val (.ref a), .val (.int b), .val (.int d)] [(.int d), (.ref cA)])) rfl rfl (hb hby d3_5) _ ?_
      show Steps p.tables e below (T1.setTop (mkF m 6 #[.val (.ref a), .val (.int b), .val (.int d)] [(.ref (own_r d y0 y1))])) _
      refine XS.iloadN X1.here hx rfl (hb hby d3_6) rfl ?_
      show Steps p.tables e below (T1.setTop (mkF m 7 #[.val (.ref a), .val (.int b), .val (.int d)] [(.int b), (.ref (own_r d y0 y1))])) _
      refine X1.iaload hx (j := b) (v := (.int (own_cnt S d b))) (by rw [e1]; exact Ay.1) (State.isArrayOf_alike hZ.alike Ay.2.1) Ay.2.2 hy1 hy2 (g := (mkF m 7 #[.val (.ref a), .val (.int b), .val (.int d)] [(.int b), (.ref (own_r d y0 y1))])) rfl rfl (hb hby d3_7) _ ?_
      show Steps p.tables e below (T1.setTop (mkF m 8 #[.val (.ref a), .val (.int b), .val (.int d)] [(.int (own_cnt S d b))])) _
      refine XS.ifNo X1.here hx rfl (hb hby d3_8) rfl ((if0 _ _).trans (tlt hc).2.2.2) ?_
      show Steps p.tables e below (T1.setTop (mkF m 11 #[.val (.ref a), .val (.int b), .val (.int d)] [])) _
      refine XS.aloadN X1.here hx rfl (hb hby d3_11) rfl rfl ?_
      show Steps p.tables e below (T1.setTop (mkF m 12 #[.val (.ref a), .val (.int b), .val (.int d)] [(.ref a)])) _
      refine st2 _ ?_
      show Steps p.tables e below (T2.setTop (mkF m 15 #[.val (.ref a), .val (.int b), .val (.int d)] [(.ref sA)])) _
      refine XS.iloadN X2.here hx rfl (hb hby d3_15) rfl ?_
      show Steps p.tables e below (T2.setTop (mkF m 16 #[.val (.ref a), .val (.int b), .val (.int d)] [(.int d), (.ref sA)])) _
      refine X2.aaload hx (j := d) (v := (.ref (own_r d x0 x1))) (by rw [e2]; exact As.1) (State.isArrayOf_alike hZ.alike As.2.1) rfl As.2.2 hs1 hs2 (g := (mkF m 16 #[.val (.ref a), .val (.int b), .val (.int d)] [(.int d), (.ref sA)])) rfl rfl (hb hby d3_16) _ ?_
      show Steps p.tables e below (T2.setTop (mkF m 17 #[.val (.ref a), .val (.int b), .val (.int d)] [(.ref (own_r d x0 x1))])) _
      refine XS.iloadN X2.here hx rfl (hb hby d3_17) rfl ?_
      show Steps p.tables e below (T2.setTop (mkF m 18 #[.val (.ref a), .val (.int b), .val (.int d)] [(.int b), (.ref (own_r d x0 x1))])) _
      refine X2.daload hx (j := b) (v := (.double (own_sum S d b))) (by rw [e2]; exact Ax.1) (State.isArrayOf_alike hZ.alike Ax.2.1) Ax.2.2 hx1 hx2 (g := (mkF m 18 #[.val (.ref a), .val (.int b), .val (.int d)] [(.int b), (.ref (own_r d x0 x1))])) rfl rfl (hb hby d3_18) _ ?_
      show Steps p.tables e below (T2.setTop (mkF m 19 #[.val (.ref a), .val (.int b), .val (.int d)] [(.double (own_sum S d b))])) _
      refine XS.aloadN X2.here hx rfl (hb hby d3_19) rfl rfl ?_
      show Steps p.tables e below (T2.setTop (mkF m 20 #[.val (.ref a), .val (.int b), .val (.int d)] [(.ref a), (.double (own_sum S d b))])) _
      refine st3 _ ?_
      show Steps p.tables e below (T3.setTop (mkF m 23 #[.val (.ref a), .val (.int b), .val (.int d)] [(.ref cA), (.double (own_sum S d b))])) _
      refine XS.iloadN X3.here hx rfl (hb hby d3_23) rfl ?_
      show Steps p.tables e below (T3.setTop (mkF m 24 #[.val (.ref a), .val (.int b), .val (.int d)] [(.int d), (.ref cA), (.double (own_sum S d b))])) _
      refine X3.aaload hx (j := d) (v := (.ref (own_r d y0 y1))) (by rw [e3]; exact Ac.1) (State.isArrayOf_alike hZ.alike Ac.2.1) rfl Ac.2.2 hc1 hc2 (g := (mkF m 24 #[.val (.ref a), .val (.int b), .val (.int d)] [(.int d), (.ref cA), (.double (own_sum S d b))])) rfl rfl (hb hby d3_24) _ ?_
      show Steps p.tables e below (T3.setTop (mkF m 25 #[.val (.ref a), .val (.int b), .val (.int d)] [(.ref (own_r d y0 y1)), (.double (own_sum S d b))])) _
      refine XS.iloadN X3.here hx rfl (hb hby d3_25) rfl ?_
      show Steps p.tables e below (T3.setTop (mkF m 26 #[.val (.ref a), .val (.int b), .val (.int d)] [(.int b), (.ref (own_r d y0 y1)), (.double (own_sum S d b))])) _
      refine X3.iaload hx (j := b) (v := (.int (own_cnt S d b))) (by rw [e3]; exact Ay.1) (State.isArrayOf_alike hZ.alike Ay.2.1) Ay.2.2 hy1 hy2 (g := (mkF m 26 #[.val (.ref a), .val (.int b), .val (.int d)] [(.int b), (.ref (own_r d y0 y1)), (.double (own_sum S d b))])) rfl rfl (hb hby d3_26) _ ?_
      show Steps p.tables e below (T3.setTop (mkF m 27 #[.val (.ref a), .val (.int b), .val (.int d)] [(.int (own_cnt S d b)), (.double (own_sum S d b))])) _
      refine XS.i2dS X3.here hx rfl (hb hby d3_27) rfl rfl ?_
      show Steps p.tables e below (T3.setTop (mkF m 28 #[.val (.ref a), .val (.int b), .val (.int d)] [(.double (FP.i2d (own_cnt S d b))), (.double (own_sum S d b))])) _
      refine XS.ddivS X3.here hx rfl (hb hby d3_28) rfl (own_div nsm (own_pos hc)) rfl ?_
      show Steps p.tables e below (T3.setTop (mkF m 29 #[.val (.ref a), .val (.int b), .val (.int d)] [(.double (FP.ddiv (own_sum S d b) (FP.i2d (own_cnt S d b))))])) _
      exact retD X3 hx Bd.returns (hb hby d3_29) hr
    · exact ⟨by rw [hval], N0, e3⟩
  · obtain ⟨T2, X2, e2, st2⟩ := getF X1 hx hZ hown (host := "") (Or.inl (hw _ (List.mem_of_getElem? (i := 13) rfl))) Via.refl e1 p3 (g := (mkF m 31 #[.val (.ref a), .val (.int b), .val (.int d)] [(.ref a)])) rfl rfl (hb hby d3_31)
    by_cases ho : 0 < (own_obs S d)
    · obtain ⟨T3, X3, e3, st3⟩ := getF X2 hx hZ hown (host := "") (Or.inl (hw _ (List.mem_of_getElem? (i := 10) rfl))) Via.refl e2 p2 (g := (mkF m 40 #[.val (.ref a), .val (.int b), .val (.int d)] [(.ref a)])) rfl rfl (hb hby d3_40)
      obtain ⟨T4, X4, e4, st4⟩ := getF X3 hx hZ hown (host := "") (Or.inl (hw _ (List.mem_of_getElem? (i := 13) rfl))) Via.refl e3 p3 (g := (mkF m 46 #[.val (.ref a), .val (.int b), .val (.int d)] [(.ref a), (.double (own_tot S d))])) rfl rfl (hb hby d3_46)
      have hval : own_per (own_cnt S d b) (own_sum S d b) (own_obs S d) (own_tot S d) = (FP.ddiv (own_tot S d) (FP.i2d (own_obs S d))) := by unfold own_per; rw [if_neg hc, if_pos ho]
      obtain ⟨fs, hr, hrun, hended, hW, hsame⟩ := X4.leave (v := some (.double (FP.ddiv (own_tot S d) (FP.i2d (own_obs S d))))) (fun h => by rw [Bd.returns] at h; cases h)
      refine ⟨_, _, castTop (ef_9 m a b d) ?_, hrun, hended, _, _, rfl, ?_, ⟨_, rfl⟩, hW, hsame.mono (by decide) (by decide)⟩
      · show Steps p.tables e below (s₁.setTop (mkF m 0 #[.val (.ref a), .val (.int b), .val (.int d)] [])) _
        refine XS.aloadN X0.here hx rfl (hb hby d3_0) rfl rfl ?_
        show Steps p.tables e below (s₁.setTop (mkF m 1 #[.val (.ref a), .val (.int b), .val (.int d)] [(.ref a)])) _
        refine st1 _ ?_
        show Steps p.tables e below (T1.setTop (mkF m 4 #[.val (.ref a), .val (.int b), .val (.int d)] [(.ref cA)])) _
        refine XS.iloadN X1.here hx rfl (hb hby d3_4) rfl ?_
        show Steps p.tables e below (T1.setTop (mkF m 5 #[.val (.ref a), .val (.int b), .val (.int d)] [(.int d), (.ref cA)])) _
        refine X1.aaload hx (j := d) (v := (.ref (own_r d y0 y1))) (by rw [e1]; exact Ac.1) (State.isArrayOf_alike hZ.alike Ac.2.1) rfl Ac.2.2 hc1 hc2 (g := (mkF m 5 #[.val (.ref a), .val (.int b), .val (.int d)] [(.int d), (.ref cA)])) rfl rfl (hb hby d3_5) _ ?_
        show Steps p.tables e below (T1.setTop (mkF m 6 #[.val (.ref a), .val (.int b), .val (.int d)] [(.ref (own_r d y0 y1))])) _
        refine XS.iloadN X1.here hx rfl (hb hby d3_6) rfl ?_
        show Steps p.tables e below (T1.setTop (mkF m 7 #[.val (.ref a), .val (.int b), .val (.int d)] [(.int b), (.ref (own_r d y0 y1))])) _
        refine X1.iaload hx (j := b) (v := (.int (own_cnt S d b))) (by rw [e1]; exact Ay.1) (State.isArrayOf_alike hZ.alike Ay.2.1) Ay.2.2 hy1 hy2 (g := (mkF m 7 #[.val (.ref a), .val (.int b), .val (.int d)] [(.int b), (.ref (own_r d y0 y1))])) rfl rfl (hb hby d3_7) _ ?_
        show Steps p.tables e below (T1.setTop (mkF m 8 #[.val (.ref a), .val (.int b), .val (.int d)] [(.int (own_cnt S d b))])) _
        refine XS.ifYes X1.here hx rfl (pc0 := 8) (pc' := 30) rfl (hb hby d3_8) rfl ((if0 _ _).trans (flt hc).2.2.2) (by decide) (by decide) ?_
        show Steps p.tables e below (T1.setTop (mkF m 30 #[.val (.ref a), .val (.int b), .val (.int d)] [])) _
        refine XS.aloadN X1.here hx rfl (hb hby d3_30) rfl rfl ?_
        show Steps p.tables e below (T1.setTop (mkF m 31 #[.val (.ref a), .val (.int b), .val (.int d)] [(.ref a)])) _
        refine st2 _ ?_
        show Steps p.tables e below (T2.setTop (mkF m 34 #[.val (.ref a), .val (.int b), .val (.int d)] [(.ref oA)])) _
        refine XS.iloadN X2.here hx rfl (hb hby d3_34) rfl ?_
        show Steps p.tables e below (T2.setTop (mkF m 35 #[.val (.ref a), .val (.int b), .val (.int d)] [(.int d), (.ref oA)])) _
        refine X2.iaload hx (j := d) (v := (.int (own_obs S d))) (by rw [e2]; exact Ao.1) (State.isArrayOf_alike hZ.alike Ao.2.1) Ao.2.2 ho1 ho2 (g := (mkF m 35 #[.val (.ref a), .val (.int b), .val (.int d)] [(.int d), (.ref oA)])) rfl rfl (hb hby d3_35) _ ?_
        show Steps p.tables e below (T2.setTop (mkF m 36 #[.val (.ref a), .val (.int b), .val (.int d)] [(.int (own_obs S d))])) _
        refine XS.ifNo X2.here hx rfl (hb hby d3_36) rfl ((if0 _ _).trans (tlt ho).2.2.2) ?_
        show Steps p.tables e below (T2.setTop (mkF m 39 #[.val (.ref a), .val (.int b), .val (.int d)] [])) _
        refine XS.aloadN X2.here hx rfl (hb hby d3_39) rfl rfl ?_
        show Steps p.tables e below (T2.setTop (mkF m 40 #[.val (.ref a), .val (.int b), .val (.int d)] [(.ref a)])) _
        refine st3 _ ?_
        show Steps p.tables e below (T3.setTop (mkF m 43 #[.val (.ref a), .val (.int b), .val (.int d)] [(.ref tA)])) _
        refine XS.iloadN X3.here hx rfl (hb hby d3_43) rfl ?_
        show Steps p.tables e below (T3.setTop (mkF m 44 #[.val (.ref a), .val (.int b), .val (.int d)] [(.int d), (.ref tA)])) _
        refine X3.daload hx (j := d) (v := (.double (own_tot S d))) (by rw [e3]; exact At.1) (State.isArrayOf_alike hZ.alike At.2.1) At.2.2 ht1 ht2 (g := (mkF m 44 #[.val (.ref a), .val (.int b), .val (.int d)] [(.int d), (.ref tA)])) rfl rfl (hb hby d3_44) _ ?_
        show Steps p.tables e below (T3.setTop (mkF m 45 #[.val (.ref a), .val (.int b), .val (.int d)] [(.double (own_tot S d))])) _
        refine XS.aloadN X3.here hx rfl (hb hby d3_45) rfl rfl ?_
        show Steps p.tables e below (T3.setTop (mkF m 46 #[.val (.ref a), .val (.int b), .val (.int d)] [(.ref a), (.double (own_tot S d))])) _
        refine st4 _ ?_
        show Steps p.tables e below (T4.setTop (mkF m 49 #[.val (.ref a), .val (.int b), .val (.int d)] [(.ref oA), (.double (own_tot S d))])) _
        refine XS.iloadN X4.here hx rfl (hb hby d3_49) rfl ?_
        show Steps p.tables e below (T4.setTop (mkF m 50 #[.val (.ref a), .val (.int b), .val (.int d)] [(.int d), (.ref oA), (.double (own_tot S d))])) _
        refine X4.iaload hx (j := d) (v := (.int (own_obs S d))) (by rw [e4]; exact Ao.1) (State.isArrayOf_alike hZ.alike Ao.2.1) Ao.2.2 ho1 ho2 (g := (mkF m 50 #[.val (.ref a), .val (.int b), .val (.int d)] [(.int d), (.ref oA), (.double (own_tot S d))])) rfl rfl (hb hby d3_50) _ ?_
        show Steps p.tables e below (T4.setTop (mkF m 51 #[.val (.ref a), .val (.int b), .val (.int d)] [(.int (own_obs S d)), (.double (own_tot S d))])) _
        refine XS.i2dS X4.here hx rfl (hb hby d3_51) rfl rfl ?_
        show Steps p.tables e below (T4.setTop (mkF m 52 #[.val (.ref a), .val (.int b), .val (.int d)] [(.double (FP.i2d (own_obs S d))), (.double (own_tot S d))])) _
        refine XS.ddivS X4.here hx rfl (hb hby d3_52) rfl (own_div ntt (own_pos ho)) rfl ?_
        show Steps p.tables e below (T4.setTop (mkF m 53 #[.val (.ref a), .val (.int b), .val (.int d)] [(.double (FP.ddiv (own_tot S d) (FP.i2d (own_obs S d))))])) _
        exact retD X4 hx Bd.returns (hb hby d3_53) hr
      · exact ⟨by rw [hval], N0, e4⟩
    · have hval : own_per (own_cnt S d b) (own_sum S d b) (own_obs S d) (own_tot S d) = FP.dconst1 := by unfold own_per; rw [if_neg hc, if_neg ho]
      obtain ⟨fs, hr, hrun, hended, hW, hsame⟩ := X2.leave (v := some (.double FP.dconst1)) (fun h => by rw [Bd.returns] at h; cases h)
      refine ⟨_, _, castTop (ef_9 m a b d) ?_, hrun, hended, _, _, rfl, ?_, ⟨_, rfl⟩, hW, hsame.mono (by decide) (by decide)⟩
      · show Steps p.tables e below (s₁.setTop (mkF m 0 #[.val (.ref a), .val (.int b), .val (.int d)] [])) _
        refine XS.aloadN X0.here hx rfl (hb hby d3_0) rfl rfl ?_
        show Steps p.tables e below (s₁.setTop (mkF m 1 #[.val (.ref a), .val (.int b), .val (.int d)] [(.ref a)])) _
        refine st1 _ ?_
        show Steps p.tables e below (T1.setTop (mkF m 4 #[.val (.ref a), .val (.int b), .val (.int d)] [(.ref cA)])) _
        refine XS.iloadN X1.here hx rfl (hb hby d3_4) rfl ?_
        show Steps p.tables e below (T1.setTop (mkF m 5 #[.val (.ref a), .val (.int b), .val (.int d)] [(.int d), (.ref cA)])) _
        refine X1.aaload hx (j := d) (v := (.ref (own_r d y0 y1))) (by rw [e1]; exact Ac.1) (State.isArrayOf_alike hZ.alike Ac.2.1) rfl Ac.2.2 hc1 hc2 (g := (mkF m 5 #[.val (.ref a), .val (.int b), .val (.int d)] [(.int d), (.ref cA)])) rfl rfl (hb hby d3_5) _ ?_
        show Steps p.tables e below (T1.setTop (mkF m 6 #[.val (.ref a), .val (.int b), .val (.int d)] [(.ref (own_r d y0 y1))])) _
        refine XS.iloadN X1.here hx rfl (hb hby d3_6) rfl ?_
        show Steps p.tables e below (T1.setTop (mkF m 7 #[.val (.ref a), .val (.int b), .val (.int d)] [(.int b), (.ref (own_r d y0 y1))])) _
        refine X1.iaload hx (j := b) (v := (.int (own_cnt S d b))) (by rw [e1]; exact Ay.1) (State.isArrayOf_alike hZ.alike Ay.2.1) Ay.2.2 hy1 hy2 (g := (mkF m 7 #[.val (.ref a), .val (.int b), .val (.int d)] [(.int b), (.ref (own_r d y0 y1))])) rfl rfl (hb hby d3_7) _ ?_
        show Steps p.tables e below (T1.setTop (mkF m 8 #[.val (.ref a), .val (.int b), .val (.int d)] [(.int (own_cnt S d b))])) _
        refine XS.ifYes X1.here hx rfl (pc0 := 8) (pc' := 30) rfl (hb hby d3_8) rfl ((if0 _ _).trans (flt hc).2.2.2) (by decide) (by decide) ?_
        show Steps p.tables e below (T1.setTop (mkF m 30 #[.val (.ref a), .val (.int b), .val (.int d)] [])) _
        refine XS.aloadN X1.here hx rfl (hb hby d3_30) rfl rfl ?_
        show Steps p.tables e below (T1.setTop (mkF m 31 #[.val (.ref a), .val (.int b), .val (.int d)] [(.ref a)])) _
        refine st2 _ ?_
        show Steps p.tables e below (T2.setTop (mkF m 34 #[.val (.ref a), .val (.int b), .val (.int d)] [(.ref oA)])) _
        refine XS.iloadN X2.here hx rfl (hb hby d3_34) rfl ?_
        show Steps p.tables e below (T2.setTop (mkF m 35 #[.val (.ref a), .val (.int b), .val (.int d)] [(.int d), (.ref oA)])) _
        refine X2.iaload hx (j := d) (v := (.int (own_obs S d))) (by rw [e2]; exact Ao.1) (State.isArrayOf_alike hZ.alike Ao.2.1) Ao.2.2 ho1 ho2 (g := (mkF m 35 #[.val (.ref a), .val (.int b), .val (.int d)] [(.int d), (.ref oA)])) rfl rfl (hb hby d3_35) _ ?_
        show Steps p.tables e below (T2.setTop (mkF m 36 #[.val (.ref a), .val (.int b), .val (.int d)] [(.int (own_obs S d))])) _
        refine XS.ifYes X2.here hx rfl (pc0 := 36) (pc' := 54) rfl (hb hby d3_36) rfl ((if0 _ _).trans (flt ho).2.2.2) (by decide) (by decide) ?_
        show Steps p.tables e below (T2.setTop (mkF m 54 #[.val (.ref a), .val (.int b), .val (.int d)] [])) _
        refine XS.dconst1 X2.here hx rfl (hb hby d3_54) rfl ?_
        show Steps p.tables e below (T2.setTop (mkF m 55 #[.val (.ref a), .val (.int b), .val (.int d)] [(.double FP.dconst1)])) _
        exact retD X2 hx Bd.returns (hb hby d3_55) hr
      · exact ⟨by rw [hval], N0, e2⟩
theorem ef_1 (m : MethodId) (x0 : Addr) (x1 : Int32) : entryFrame m #[(.ref x0), (.int x1)] 2 = mkF m 0 #[.val (.ref x0), .val (.int x1)] [] := by first | (simp [entryFrame, mkF, argsToLocals, Value.category]; done) | rfl
def Q1 (Z : State) (a : Nat) (h0 : Heap) (n0 : Nat) (vv : Option Value) (h : Heap) (L : List Loc) : Prop := vv = none ∧ Fr n0 L ∧ h0.size ≤ h.size ∧ ∃ tA oA sA x0 x1 cA y0 y1, own_P Z h a tA oA sA x0 x1 cA y0 y1 [] ∧ own_ch n0 a tA oA sA x0 x1 cA y0 y1
set_option maxRecDepth 65536 in
set_option maxHeartbeats 40000000 in
theorem rm1 (l : Launch) (Z : State) (a0 : Array Value) (hw : ∀ d ∈ tables_1, d.before a0 Z = true) (ws' : List Jvm.Cond) (a : Nat) (h0 : Heap) (n0 : Nat) (Z0 : n0 ≤ h0.size) (EE : Exa Z h0 a "com/example/bundlewright/bundlewright/Pseudocosts") (u1 u2 u3 u4 : Value) (F_total : Fld Z h0 a "com/example/bundlewright/bundlewright/Pseudocosts" "total" "[D" u1) (F_observations : Fld Z h0 a "com/example/bundlewright/bundlewright/Pseudocosts" "observations" "[I" u2) (F_sum : Fld Z h0 a "com/example/bundlewright/bundlewright/Pseudocosts" "sum" "[[D" u3) (F_count : Fld Z h0 a "com/example/bundlewright/bundlewright/Pseudocosts" "count" "[[I" u4) (ga : n0 ≤ a) :
    MetFree l (⟨"com/example/bundlewright/bundlewright/Pseudocosts", "<init>", "(I)V"⟩ : MethodName) (head1 (Jvm.Cond.code (⟨"com/example/bundlewright/bundlewright/Pseudocosts", "<init>", "(I)V"⟩ : MethodName) prog_75_method_1_code 2 none :: ws') ({ frames := 1, cells := 8, slots := 20, locals := 12 } : Room)) (fun aa U => aa = #[(.ref a), (.int (3 : Int32))] ∧ Z.Warmed39 U.vm ∧ U.heap = h0) (fun _ _ _ _ _ => True) (fun _ U o U' => ∃ vv L, o = .returned vv ∧ Q1 Z a h0 n0 vv U'.heap L ∧ FrameEnd U o U' L (({ frames := 1, cells := 8, slots := 20, locals := 12 } : Room)).cells (({ frames := 1, cells := 8, slots := 20, locals := 12 } : Room)).slots) := by
  refine MetFree.of_bodySF (plainFor_of_name pn_P) hisR ?_
  intro p e s m args below meth c s₁ Bd hml0 hP hK
  obtain ⟨rfl, hZ, hh⟩ := hP
  have hx := Bd.exec
  have hby := Bd.bytes
  have hml : c.maxLocals = 2 := hml0
  have hown : s.vm.findClass "com/example/bundlewright/bundlewright/Pseudocosts" = some m.cls := findClass_of_methodNamed Bd.named
  have hnm := (name_of_methodNamed Bd.named Bd.method).1
  have X0 : Stand p l e ({ frames := 1, cells := 8, slots := 20, locals := 12 } : Room) s m #[(.ref a), (.int (3 : Int32))] below meth c s₁ [] 0 0 := Stand.of_body Bd
  have e0 : s₁.heap = h0 := by rw [← hh, Bd.state]; rfl
  have N0 := Fr.nil n0
  obtain ⟨T1, X1, e1, st1⟩ := initO X0 hx hZ hown (hw _ (List.mem_of_getElem? (i := 6) rfl)) (hw _ (List.mem_of_getElem? (i := 7) rfl)) (hw _ (List.mem_of_getElem? (i := 8) rfl)) e0 (g := (mkF m 1 #[.val (.ref a), .val (.int (3 : Int32))] [(.ref a)])) rfl (by rw [hml]; rfl) rfl (hb hby d1_1) (by decide) (W := 0) (by show 2 * 0 + _ ≤ _; exact Nat.le_of_eq rfl) (by decide)
  obtain ⟨T2, h2, k2, X2, e2, E2, A2, st2⟩ := newP X1 hx hZ (hw _ (List.mem_of_getElem? (i := 9) rfl)) e1 (g := (mkF m 6 #[.val (.ref a), .val (.int (3 : Int32))] [(.int (2 : Int32)), (.ref a)])) rfl (hb hby d1_6) rfl (by decide) (cap := 2) (by decide) (by decide) (by decide) (by decide)
  obtain ⟨tA, g2⟩ : ∃ z, z = h0.size := ⟨_, rfl⟩
  rw [← g2] at A2 st2
  have a_t : a < tA := by rw [g2]; exact EE.lt
  have Dt2 := own_D.new A2
  obtain ⟨T3, h3, X3, e3, W3, st3⟩ := putF X2 hx hZ hown (host := "") (Or.inl (hw _ (List.mem_of_getElem? (i := 10) rfl))) Via.refl e2 (F_total.ext E2) (EE.ext E2) (Or.inr ⟨(hw _ (List.mem_of_getElem? (i := 11) rfl)), rfl, hnm⟩) (hw _ (List.mem_of_getElem? (i := 1) rfl)) (ty := (.array .double)) (by decide) rfl rfl (g := (mkF m 8 #[.val (.ref a), .val (.int (3 : Int32))] [(.ref tA), (.ref a)])) rfl rfl (hb hby d1_8)
  have N3 := Fr.snoc X3 N0 ga
  have Dt3 := Dt2.other W3 (Nat.ne_of_gt a_t)
  obtain ⟨T4, h4, k4, X4, e4, E4, A4, st4⟩ := newP X3 hx hZ (hw _ (List.mem_of_getElem? (i := 12) rfl)) e3 (g := (mkF m 13 #[.val (.ref a), .val (.int (3 : Int32))] [(.int (2 : Int32)), (.ref a)])) rfl (hb hby d1_13) rfl (by decide) (cap := 2) (by decide) (by decide) (by decide) (by decide)
  obtain ⟨oA, g4⟩ : ∃ z, z = h3.size := ⟨_, rfl⟩
  rw [← g4] at A4 st4
  have t_o : tA < oA := by rw [g4]; exact Dt3.lt
  have Lo4 := own_L.new A4
  have Dt4 := Dt3.ext E4
  obtain ⟨T5, h5, X5, e5, W5, st5⟩ := putF X4 hx hZ hown (host := "") (Or.inl (hw _ (List.mem_of_getElem? (i := 13) rfl))) Via.refl e4 (((F_observations.ext E2).other W3 (Or.inr (slot_ne (Or.inr (hw _ (List.mem_of_getElem? (i := 14) rfl))) (Or.inr (hw _ (List.mem_of_getElem? (i := 11) rfl))) (by decide) (t := (.array .int)) (t' := (.array .double)) (by decide) (by decide)))).ext E4) (((EE.ext E2).wr W3).ext E4) (Or.inr ⟨(hw _ (List.mem_of_getElem? (i := 14) rfl)), rfl, hnm⟩) (hw _ (List.mem_of_getElem? (i := 1) rfl)) (ty := (.array .int)) (by decide) rfl rfl (g := (mkF m 15 #[.val (.ref a), .val (.int (3 : Int32))] [(.ref oA), (.ref a)])) rfl rfl (hb hby d1_15)
  have N5 := Fr.snoc X5 N3 ga
  have Lo5 := Lo4.other W5 (Nat.ne_of_gt (Nat.lt_trans a_t t_o))
  have Dt5 := Dt4.other W5 (Nat.ne_of_gt a_t)
  obtain ⟨T6, h6, kA6, kB6, X6, e6, E6, V6, -, -, R6, st6⟩ := gridM X5 hx hZ (C := "[D") (ad := "[[D") (ty := .double) hown rfl rfl (hw _ (List.mem_of_getElem? (i := 15) rfl)) (hw _ (List.mem_of_getElem? (i := 16) rfl)) (hw _ (List.mem_of_getElem? (i := 9) rfl)) e5 (g := (mkF m 21 #[.val (.ref a), .val (.int (3 : Int32))] [(.int (3 : Int32)), (.int (2 : Int32)), (.ref a)])) rfl (hb hby d1_21) rfl (by decide) (by decide) (xs := [h5.size + 1, h5.size + 2]) (N := 2) (by decide) rfl (cap := 3) (by decide) (by decide) (by decide) rfl rfl (by decide) (by decide)
  obtain ⟨sA, g6⟩ : ∃ z, z = h5.size := ⟨_, rfl⟩
  rw [← g6] at V6 R6 st6
  have F6 : own_F Z h6 sA .double (sA + 1) (sA + 2) := by
    obtain ⟨cl, Ar, -, S, -, H, -⟩ := V6
    exact ⟨cl, Ar, S, H 0 (by rw [S]; decide), H 1 (by rw [S]; decide)⟩
  have o_s : oA < sA := by rw [g6]; exact Lo5.lt
  have Da6 := own_D.new (R6 0 (sA + 1) rfl).1
  have Db6 := own_D.new (R6 1 (sA + 2) rfl).1
  have Lo6 := Lo5.ext E6
  have Dt6 := Dt5.ext E6
  obtain ⟨T7, h7, X7, e7, W7, st7⟩ := putF X6 hx hZ hown (host := "") (Or.inl (hw _ (List.mem_of_getElem? (i := 17) rfl))) Via.refl e6 (((((F_sum.ext E2).other W3 (Or.inr (slot_ne (Or.inr (hw _ (List.mem_of_getElem? (i := 18) rfl))) (Or.inr (hw _ (List.mem_of_getElem? (i := 11) rfl))) (by decide) (t := (.array (.array .double))) (t' := (.array .double)) (by decide) (by decide)))).ext E4).other W5 (Or.inr (slot_ne (Or.inr (hw _ (List.mem_of_getElem? (i := 18) rfl))) (Or.inr (hw _ (List.mem_of_getElem? (i := 14) rfl))) (by decide) (t := (.array (.array .double))) (t' := (.array .int)) (by decide) (by decide)))).ext E6) (((((EE.ext E2).wr W3).ext E4).wr W5).ext E6) (Or.inr ⟨(hw _ (List.mem_of_getElem? (i := 18) rfl)), rfl, hnm⟩) (hw _ (List.mem_of_getElem? (i := 1) rfl)) (ty := (.array (.array .double))) (by decide) rfl rfl (g := (mkF m 25 #[.val (.ref a), .val (.int (3 : Int32))] [(.ref sA), (.ref a)])) rfl rfl (hb hby d1_25)
  have N7 := Fr.snoc X7 N5 ga
  have F7 := F6.other W7 (show sA ≠ a by omega)
  have Da7 := Da6.other W7 (show sA + 1 ≠ a by omega)
  have Db7 := Db6.other W7 (show sA + 2 ≠ a by omega)
  have Lo7 := Lo6.other W7 (show oA ≠ a by omega)
  have Dt7 := Dt6.other W7 (show tA ≠ a by omega)
  obtain ⟨T8, h8, kA8, kB8, X8, e8, E8, V8, -, -, R8, st8⟩ := gridM X7 hx hZ (C := "[I") (ad := "[[I") (ty := .int) hown rfl rfl (hw _ (List.mem_of_getElem? (i := 19) rfl)) (hw _ (List.mem_of_getElem? (i := 20) rfl)) (hw _ (List.mem_of_getElem? (i := 12) rfl)) e7 (g := (mkF m 31 #[.val (.ref a), .val (.int (3 : Int32))] [(.int (3 : Int32)), (.int (2 : Int32)), (.ref a)])) rfl (hb hby d1_31) rfl (by decide) (by decide) (xs := [h7.size + 1, h7.size + 2]) (N := 2) (by decide) rfl (cap := 3) (by decide) (by decide) (by decide) rfl rfl (by decide) (by decide)
  obtain ⟨cA, g8⟩ : ∃ z, z = h7.size := ⟨_, rfl⟩
  rw [← g8] at V8 R8 st8
  have F8 : own_F Z h8 cA .int (cA + 1) (cA + 2) := by
    obtain ⟨cl, Ar, -, S, -, H, -⟩ := V8
    exact ⟨cl, Ar, S, H 0 (by rw [S]; decide), H 1 (by rw [S]; decide)⟩
  have x_c : sA + 2 < cA := by rw [g8]; exact Db7.lt
  have La8 := own_L.new (R8 0 (cA + 1) rfl).1
  have Lb8 := own_L.new (R8 1 (cA + 2) rfl).1
  obtain ⟨T9, h9, X9, e9, W9, st9⟩ := putF X8 hx hZ hown (host := "") (Or.inl (hw _ (List.mem_of_getElem? (i := 21) rfl))) Via.refl e8 (((((((F_count.ext E2).other W3 (Or.inr (slot_ne (Or.inr (hw _ (List.mem_of_getElem? (i := 22) rfl))) (Or.inr (hw _ (List.mem_of_getElem? (i := 11) rfl))) (by decide) (t := (.array (.array .int))) (t' := (.array .double)) (by decide) (by decide)))).ext E4).other W5 (Or.inr (slot_ne (Or.inr (hw _ (List.mem_of_getElem? (i := 22) rfl))) (Or.inr (hw _ (List.mem_of_getElem? (i := 14) rfl))) (by decide) (t := (.array (.array .int))) (t' := (.array .int)) (by decide) (by decide)))).ext E6).other W7 (Or.inr (slot_ne (Or.inr (hw _ (List.mem_of_getElem? (i := 22) rfl))) (Or.inr (hw _ (List.mem_of_getElem? (i := 18) rfl))) (by decide) (t := (.array (.array .int))) (t' := (.array (.array .double))) (by decide) (by decide)))).ext E8) (((((((EE.ext E2).wr W3).ext E4).wr W5).ext E6).wr W7).ext E8) (Or.inr ⟨(hw _ (List.mem_of_getElem? (i := 22) rfl)), rfl, hnm⟩) (hw _ (List.mem_of_getElem? (i := 1) rfl)) (ty := (.array (.array .int))) (by decide) rfl rfl (g := (mkF m 35 #[.val (.ref a), .val (.int (3 : Int32))] [(.ref cA), (.ref a)])) rfl rfl (hb hby d1_35)
  have N9 := Fr.snoc X9 N7 ga
  have La9 := La8.other W9 (show cA + 1 ≠ a by omega)
  have Lb9 := Lb8.other W9 (show cA + 2 ≠ a by omega)
  have G9 := F8.other W9 (show cA ≠ a by omega)
  have F9 := (F7.ext E8).other W9 (show sA ≠ a by omega)
  have Da9 := (Da7.ext E8).other W9 (show sA + 1 ≠ a by omega)
  have Db9 := (Db7.ext E8).other W9 (show sA + 2 ≠ a by omega)
  have Lo9 := (Lo7.ext E8).other W9 (show oA ≠ a by omega)
  have Dt9 := (Dt7.ext E8).other W9 (show tA ≠ a by omega)
  have hsz : h0.size ≤ h9.size := Nat.le_trans E2.1 (Nat.le_trans (Keep.of_wr W3).1 (Nat.le_trans E4.1 (Nat.le_trans (Keep.of_wr W5).1 (Nat.le_trans E6.1 (Nat.le_trans (Keep.of_wr W7).1 (Nat.le_trans E8.1 (Keep.of_wr W9).1))))))
  obtain ⟨fs, hr, hrun, hended, hW, hsame⟩ := X9.leave (v := none) (fun _ => rfl)
  refine ⟨_, _, castTop (ef_1 m a 3) ?_, hrun, hended, _, _, rfl, ?_, ⟨_, rfl⟩, hW, hsame.mono (by decide) (by decide)⟩
  · show Steps p.tables e below (s₁.setTop (mkF m 0 #[.val (.ref a), .val (.int (3 : Int32))] [])) _
    refine XS.aloadN X0.here hx rfl (hb hby d1_0) rfl rfl ?_
    show Steps p.tables e below (s₁.setTop (mkF m 1 #[.val (.ref a), .val (.int (3 : Int32))] [(.ref a)])) _
    refine st1 _ ?_
    show Steps p.tables e below (T1.setTop (mkF m 4 #[.val (.ref a), .val (.int (3 : Int32))] [])) _
    refine XS.aloadN X1.here hx rfl (hb hby d1_4) rfl rfl ?_
    show Steps p.tables e below (T1.setTop (mkF m 5 #[.val (.ref a), .val (.int (3 : Int32))] [(.ref a)])) _
    refine XS.iconst X1.here hx rfl (hb hby d1_5) ?_
    show Steps p.tables e below (T1.setTop (mkF m 6 #[.val (.ref a), .val (.int (3 : Int32))] [(.int (2 : Int32)), (.ref a)])) _
    refine st2 _ ?_
    show Steps p.tables e below (T2.setTop (mkF m 8 #[.val (.ref a), .val (.int (3 : Int32))] [(.ref tA), (.ref a)])) _
    refine st3 _ ?_
    show Steps p.tables e below (T3.setTop (mkF m 11 #[.val (.ref a), .val (.int (3 : Int32))] [])) _
    refine XS.aloadN X3.here hx rfl (hb hby d1_11) rfl rfl ?_
    show Steps p.tables e below (T3.setTop (mkF m 12 #[.val (.ref a), .val (.int (3 : Int32))] [(.ref a)])) _
    refine XS.iconst X3.here hx rfl (hb hby d1_12) ?_
    show Steps p.tables e below (T3.setTop (mkF m 13 #[.val (.ref a), .val (.int (3 : Int32))] [(.int (2 : Int32)), (.ref a)])) _
    refine st4 _ ?_
    show Steps p.tables e below (T4.setTop (mkF m 15 #[.val (.ref a), .val (.int (3 : Int32))] [(.ref oA), (.ref a)])) _
    refine st5 _ ?_
    show Steps p.tables e below (T5.setTop (mkF m 18 #[.val (.ref a), .val (.int (3 : Int32))] [])) _
    refine XS.aloadN X5.here hx rfl (hb hby d1_18) rfl rfl ?_
    show Steps p.tables e below (T5.setTop (mkF m 19 #[.val (.ref a), .val (.int (3 : Int32))] [(.ref a)])) _
    refine XS.iconst X5.here hx rfl (hb hby d1_19) ?_
    show Steps p.tables e below (T5.setTop (mkF m 20 #[.val (.ref a), .val (.int (3 : Int32))] [(.int (2 : Int32)), (.ref a)])) _
    refine XS.iloadN X5.here hx rfl (hb hby d1_20) rfl ?_
    show Steps p.tables e below (T5.setTop (mkF m 21 #[.val (.ref a), .val (.int (3 : Int32))] [(.int (3 : Int32)), (.int (2 : Int32)), (.ref a)])) _
    refine st6 _ ?_
    show Steps p.tables e below (T6.setTop (mkF m 25 #[.val (.ref a), .val (.int (3 : Int32))] [(.ref sA), (.ref a)])) _
    refine st7 _ ?_
    show Steps p.tables e below (T7.setTop (mkF m 28 #[.val (.ref a), .val (.int (3 : Int32))] [])) _
    refine XS.aloadN X7.here hx rfl (hb hby d1_28) rfl rfl ?_
    show Steps p.tables e below (T7.setTop (mkF m 29 #[.val (.ref a), .val (.int (3 : Int32))] [(.ref a)])) _
    refine XS.iconst X7.here hx rfl (hb hby d1_29) ?_
    show Steps p.tables e below (T7.setTop (mkF m 30 #[.val (.ref a), .val (.int (3 : Int32))] [(.int (2 : Int32)), (.ref a)])) _
    refine XS.iloadN X7.here hx rfl (hb hby d1_30) rfl ?_
    show Steps p.tables e below (T7.setTop (mkF m 31 #[.val (.ref a), .val (.int (3 : Int32))] [(.int (3 : Int32)), (.int (2 : Int32)), (.ref a)])) _
    refine st8 _ ?_
    show Steps p.tables e below (T8.setTop (mkF m 35 #[.val (.ref a), .val (.int (3 : Int32))] [(.ref cA), (.ref a)])) _
    refine st9 _ ?_
    show Steps p.tables e below (T9.setTop (mkF m 38 #[.val (.ref a), .val (.int (3 : Int32))] [])) _
    exact X9.returnOut hx Bd.returns (hb hby d1_38) hr
  · refine ⟨rfl, N9, by rw [show (T9.setFrames fs).heap = h9 from e9]; exact hsz, tA, oA, sA, sA + 1, sA + 2, cA, cA + 1, cA + 2, ?_, ⟨ga, a_t, t_o, o_s, by omega, by omega, x_c, by omega, by omega⟩⟩
    rw [show (T9.setFrames fs).heap = h9 from e9]
    exact ⟨((((((((EE.ext E2).wr W3).ext E4).wr W5).ext E6).wr W7).ext E8).wr W9), ((((((((F_total.ext E2).same W3).ext E4).other W5 (Or.inr (slot_ne (Or.inr (hw _ (List.mem_of_getElem? (i := 11) rfl))) (Or.inr (hw _ (List.mem_of_getElem? (i := 14) rfl))) (by decide) (t := (.array .double)) (t' := (.array .int)) (by decide) (by decide)))).ext E6).other W7 (Or.inr (slot_ne (Or.inr (hw _ (List.mem_of_getElem? (i := 11) rfl))) (Or.inr (hw _ (List.mem_of_getElem? (i := 18) rfl))) (by decide) (t := (.array .double)) (t' := (.array (.array .double))) (by decide) (by decide)))).ext E8).other W9 (Or.inr (slot_ne (Or.inr (hw _ (List.mem_of_getElem? (i := 11) rfl))) (Or.inr (hw _ (List.mem_of_getElem? (i := 22) rfl))) (by decide) (t := (.array .double)) (t' := (.array (.array .int))) (by decide) (by decide)))), ((((((((F_observations.ext E2).other W3 (Or.inr (slot_ne (Or.inr (hw _ (List.mem_of_getElem? (i := 14) rfl))) (Or.inr (hw _ (List.mem_of_getElem? (i := 11) rfl))) (by decide) (t := (.array .int)) (t' := (.array .double)) (by decide) (by decide)))).ext E4).same W5).ext E6).other W7 (Or.inr (slot_ne (Or.inr (hw _ (List.mem_of_getElem? (i := 14) rfl))) (Or.inr (hw _ (List.mem_of_getElem? (i := 18) rfl))) (by decide) (t := (.array .int)) (t' := (.array (.array .double))) (by decide) (by decide)))).ext E8).other W9 (Or.inr (slot_ne (Or.inr (hw _ (List.mem_of_getElem? (i := 14) rfl))) (Or.inr (hw _ (List.mem_of_getElem? (i := 22) rfl))) (by decide) (t := (.array .int)) (t' := (.array (.array .int))) (by decide) (by decide)))), ((((((((F_sum.ext E2).other W3 (Or.inr (slot_ne (Or.inr (hw _ (List.mem_of_getElem? (i := 18) rfl))) (Or.inr (hw _ (List.mem_of_getElem? (i := 11) rfl))) (by decide) (t := (.array (.array .double))) (t' := (.array .double)) (by decide) (by decide)))).ext E4).other W5 (Or.inr (slot_ne (Or.inr (hw _ (List.mem_of_getElem? (i := 18) rfl))) (Or.inr (hw _ (List.mem_of_getElem? (i := 14) rfl))) (by decide) (t := (.array (.array .double))) (t' := (.array .int)) (by decide) (by decide)))).ext E6).same W7).ext E8).other W9 (Or.inr (slot_ne (Or.inr (hw _ (List.mem_of_getElem? (i := 18) rfl))) (Or.inr (hw _ (List.mem_of_getElem? (i := 22) rfl))) (by decide) (t := (.array (.array .double))) (t' := (.array (.array .int))) (by decide) (by decide)))), ((((((((F_count.ext E2).other W3 (Or.inr (slot_ne (Or.inr (hw _ (List.mem_of_getElem? (i := 22) rfl))) (Or.inr (hw _ (List.mem_of_getElem? (i := 11) rfl))) (by decide) (t := (.array (.array .int))) (t' := (.array .double)) (by decide) (by decide)))).ext E4).other W5 (Or.inr (slot_ne (Or.inr (hw _ (List.mem_of_getElem? (i := 22) rfl))) (Or.inr (hw _ (List.mem_of_getElem? (i := 14) rfl))) (by decide) (t := (.array (.array .int))) (t' := (.array .int)) (by decide) (by decide)))).ext E6).other W7 (Or.inr (slot_ne (Or.inr (hw _ (List.mem_of_getElem? (i := 22) rfl))) (Or.inr (hw _ (List.mem_of_getElem? (i := 18) rfl))) (by decide) (t := (.array (.array .int))) (t' := (.array (.array .double))) (by decide) (by decide)))).ext E8).same W9), F9, G9, Dt9, Lo9, Da9, Db9, La9, Lb9⟩
def own_qk (cc : Int32) : Int32 := (cc &&& (3 : Int32))
def own_qb (cc : Int32) : Int32 := ((((cc.toUInt32 >>> ((2 : Int32) &&& 31).toUInt32).toInt32) &&& (3 : Int32)) - (((cc.toUInt32 >>> ((2 : Int32) &&& 31).toUInt32).toInt32) &&& (3 : Int32)) / (3 : Int32) * (3 : Int32))
def own_qd (cc : Int32) : Int32 := (((cc.toUInt32 >>> ((4 : Int32) &&& 31).toUInt32).toInt32) &&& (1 : Int32))
theorem own_rem {x y : Int32} {d : Int} (hy : y.toInt = d) (h1 : y ≠ -1) (hd : 0 < d) (hx : 0 ≤ x.toInt) : (x - x / y * y).toInt = x.toInt % d := by
  have a := (c_idiv x y d hy h1).1 hx
  have b := c_imul (x / y) y
  have e := c_isub x (x / y * y)
  have r1 := rng32 (x - x / y * y)
  have r2 := rng32 (x / y * y)
  have r3 := rng32 x
  rw [a, hy] at b
  have q := Int.emod_add_mul_ediv x.toInt d
  have q1 := Int.emod_nonneg x.toInt (show d ≠ 0 by omega)
  have q2 := Int.emod_lt_of_pos x.toInt hd
  rw [Int.mul_comm] at q
  have q3 : 0 ≤ x.toInt / d * d := Int.mul_nonneg (Int.ediv_nonneg hx (by omega)) (by omega)
  generalize x.toInt / d * d = z at *
  generalize x.toInt % d = w at *
  omega
theorem own_qb_r (cc : Int32) : own_qb cc = 0 ∨ own_qb cc = 1 ∨ own_qb cc = 2 := by
  have h1 := c_mask ((cc.toUInt32 >>> ((2 : Int32) &&& 31).toUInt32).toInt32) 3 2 (by decide) (by decide)
  have h2 := own_rem (x := ((cc.toUInt32 >>> ((2 : Int32) &&& 31).toUInt32).toInt32 &&& (3 : Int32))) (y := 3) (d := 3) (by decide) (by decide) (by decide) (by rw [h1]; omega)
  unfold own_qb
  simp only [← Int32.toInt_inj, h2, Int32.reduceToInt]
  omega
theorem own_qd_r (cc : Int32) : own_qd cc = 0 ∨ own_qd cc = 1 := by
  have h1 := c_mask ((cc.toUInt32 >>> ((4 : Int32) &&& 31).toUInt32).toInt32) 1 1 (by decide) (by decide)
  unfold own_qd
  simp only [← Int32.toInt_inj, h1, Int32.reduceToInt]
  omega
def own_nx (k i : Int32) (S : List (Int32 × Int32 × UInt64)) (r : Int64) : List (Int32 × Int32 × UInt64) := if k < i then S else S ++ [own_rec r]
def own_sml (n : Nat) (S : List (Int32 × Int32 × UInt64)) : Prop := S.length ≤ n ∧ ∀ r ∈ S, Fl.Mag64 1057 r.2.2
theorem own_sml.small {n : Nat} {S : List (Int32 × Int32 × UInt64)} (h : own_sml n S) (hn : n ≤ 3) : own_small S := ⟨Nat.le_trans h.1 hn, h.2⟩
theorem own_nx_sml {n : Nat} {S : List (Int32 × Int32 × UInt64)} (h : own_sml n S) (k i : Int32) (r : Int64) : own_sml (n + 1) (own_nx k i S r) := by
  unfold own_nx
  split
  · exact ⟨Nat.le_succ_of_le h.1, h.2⟩
  · refine ⟨by have := h.1; simp; omega, fun q hq => ?_⟩
    rcases List.mem_append.mp hq with hq | hq
    · exact h.2 q hq
    · simp at hq; subst hq; exact own_val_mag r
set_option maxRecDepth 65536 in
set_option maxHeartbeats 40000000 in
theorem own_rc1 {p : Program} {l : Launch} {e : Env} {s : State} {m : MethodId} {args : Array Value} {below : List Frame} {meth : Method} {c : Code} {T0 : State} {locs : List Loc} {Z : State} {a0 : Array Value} {h0 : Heap} (cc : Int32) (r1 r2 r3 : Int64) (k qb qd : Int32) (a tA oA sA x0 x1 cA y0 y1 : Nat) (S : List (Int32 × Int32 × UInt64))
    (X0 : Stand p l e room_1 s m args below meth c T0 locs (0 + 1 + 8) (0 + 4 + 20)) (hx : p.tables.exec = Jvm.exec) (hZ : Z.Warmed39 s.vm) (hw : ∀ d ∈ tables_1, d.before a0 Z = true) (hby : c.code = code) (hml : c.maxLocals = 19) (hown : s.vm.findClass "com/example/bundlewright/bundlewright/PseudocostsPerUnitPinLaw" = some m.cls) (e0 : T0.heap = h0) (n0 : Nat) (Z0 : n0 ≤ h0.size) (N : Fr n0 locs) (A : own_P Z h0 a tA oA sA x0 x1 cA y0 y1 S) (ch : own_ch n0 a tA oA sA x0 x1 cA y0 y1) (hS : own_small S) :
    ∃ (T' : State) (h' : Heap) (L' : List Loc), Stand p l e room_1 s m args below meth c T' L' (0 + 1 + 8) (0 + 4 + 20) ∧ T'.heap = h' ∧ Fr n0 L' ∧ n0 ≤ h'.size ∧ own_P Z h' a tA oA sA x0 x1 cA y0 y1 (own_nx k 1 S r1) ∧
      ∀ target, Steps p.tables e below (T'.setTop (mkF m 43 #[.val (.int cc), .val (.long r1), .second, .val (.long r2), .second, .val (.long r3), .second, .val (.int k), .val (.int qb), .val (.int qd), .val (.ref a), .unset, .unset, .unset, .unset, .unset, .unset, .unset, .unset] [])) target → Steps p.tables e below (T0.setTop (mkF m 31 #[.val (.int cc), .val (.long r1), .second, .val (.long r2), .second, .val (.long r3), .second, .val (.int k), .val (.int qb), .val (.int qd), .val (.ref a), .unset, .unset, .unset, .unset, .unset, .unset, .unset, .unset] [])) target := by
  by_cases h : k < (1 : Int32)
  · refine ⟨T0, h0, locs, X0, e0, N, Z0, by unfold own_nx; rw [if_pos h]; exact A, fun target kt => ?_⟩
    show Steps p.tables e below (T0.setTop (mkF m 31 #[.val (.int cc), .val (.long r1), .second, .val (.long r2), .second, .val (.long r3), .second, .val (.int k), .val (.int qb), .val (.int qd), .val (.ref a), .unset, .unset, .unset, .unset, .unset, .unset, .unset, .unset] [])) _
    refine XS.iload X0.here hx rfl (hb hby at_31) rfl ?_
    show Steps p.tables e below (T0.setTop (mkF m 33 #[.val (.int cc), .val (.long r1), .second, .val (.long r2), .second, .val (.long r3), .second, .val (.int k), .val (.int qb), .val (.int qd), .val (.ref a), .unset, .unset, .unset, .unset, .unset, .unset, .unset, .unset] [(.int k)])) _
    refine XS.iconst X0.here hx rfl (hb hby at_33) ?_
    show Steps p.tables e below (T0.setTop (mkF m 34 #[.val (.int cc), .val (.long r1), .second, .val (.long r2), .second, .val (.long r3), .second, .val (.int k), .val (.int qb), .val (.int qd), .val (.ref a), .unset, .unset, .unset, .unset, .unset, .unset, .unset, .unset] [(.int (1 : Int32)), (.int k)])) _
    refine XS.icmpYes X0.here hx rfl (pc0 := 34) (pc' := 43) rfl (hb hby at_34) rfl (tlt h).1 (by decide) (by decide) ?_
    exact kt
  ·
    obtain ⟨_, _, ⟨T1, L1, k1, n1⟩, -, X1, ⟨Lc1, hQ1, l1, y1, z1⟩, st1⟩ := Jvm.LawKit.callS X0 hx (y := (⟨"com/example/bundlewright/bundlewright/PseudocostsPerUnitPinLaw", "rec", "(Lcom/example/bundlewright/bundlewright/Pseudocosts;J)V"⟩ : MethodName)) hown (mvT hZ (hw _ (List.mem_of_getElem? (i := 28) rfl))) (mvT hZ (hw _ (List.mem_of_getElem? (i := 29) rfl))) (mvT hZ (hw _ (List.mem_of_getElem? (i := 30) rfl))) (mvT hZ (hw _ (List.mem_of_getElem? (i := 31) rfl))) (by decide) (backOf (W := 0) (rm8 l Z a0 hw [] a tA oA sA x0 x1 cA y0 y1 r1 S h0 n0 Z0 A ch hS) hZ (hw _ (List.mem_of_getElem? (i := 31) rfl)) (hw _ (List.mem_of_getElem? (i := 30) rfl)) (by decide) (by decide)) (g := (mkF m 40 #[.val (.int cc), .val (.long r1), .second, .val (.long r2), .second, .val (.long r3), .second, .val (.int k), .val (.int qb), .val (.int qd), .val (.ref a), .unset, .unset, .unset, .unset, .unset, .unset, .unset, .unset] [(.long r1), (.ref a)])) rfl (by rw [hml]; rfl) (argsL := [(.ref a), (.long r1)]) (rest := []) (lenOf (show parseMethodDescriptor "(Lcom/example/bundlewright/bundlewright/Pseudocosts;J)V" = some ⟨[(.object "com/example/bundlewright/bundlewright/Pseudocosts"), .long], none⟩ from by decide +kernel) rfl) rfl (by show 2 * 0 + _ ≤ _; exact Nat.le_of_eq rfl) (hb hby at_40) (fun _ _ => ⟨rfl, e0, (by decide : 0 + 1 + 8 + 0 ≤ _), (by decide : 0 + 4 + 20 + 0 ≤ _)⟩)
    dsimp only [Pt.U, Pt.locs, Pt.cells, Pt.slots] at X1 l1 y1 z1 st1 hQ1
    subst l1 y1 z1
    obtain ⟨rfl, N1q, P1, hs1⟩ := hQ1
    have N1 := Fr.app N N1q
    refine ⟨T1, _, _, X1, rfl, N1, Nat.le_trans Z0 hs1, by unfold own_nx; rw [if_neg h]; exact P1, fun target kt => ?_⟩
    show Steps p.tables e below (T0.setTop (mkF m 31 #[.val (.int cc), .val (.long r1), .second, .val (.long r2), .second, .val (.long r3), .second, .val (.int k), .val (.int qb), .val (.int qd), .val (.ref a), .unset, .unset, .unset, .unset, .unset, .unset, .unset, .unset] [])) _
    refine XS.iload X0.here hx rfl (hb hby at_31) rfl ?_
    show Steps p.tables e below (T0.setTop (mkF m 33 #[.val (.int cc), .val (.long r1), .second, .val (.long r2), .second, .val (.long r3), .second, .val (.int k), .val (.int qb), .val (.int qd), .val (.ref a), .unset, .unset, .unset, .unset, .unset, .unset, .unset, .unset] [(.int k)])) _
    refine XS.iconst X0.here hx rfl (hb hby at_33) ?_
    show Steps p.tables e below (T0.setTop (mkF m 34 #[.val (.int cc), .val (.long r1), .second, .val (.long r2), .second, .val (.long r3), .second, .val (.int k), .val (.int qb), .val (.int qd), .val (.ref a), .unset, .unset, .unset, .unset, .unset, .unset, .unset, .unset] [(.int (1 : Int32)), (.int k)])) _
    refine XS.icmpNo X0.here hx rfl (hb hby at_34) rfl (flt h).1 ?_
    show Steps p.tables e below (T0.setTop (mkF m 37 #[.val (.int cc), .val (.long r1), .second, .val (.long r2), .second, .val (.long r3), .second, .val (.int k), .val (.int qb), .val (.int qd), .val (.ref a), .unset, .unset, .unset, .unset, .unset, .unset, .unset, .unset] [])) _
    refine XS.aload X0.here hx rfl (hb hby at_37) rfl rfl ?_
    show Steps p.tables e below (T0.setTop (mkF m 39 #[.val (.int cc), .val (.long r1), .second, .val (.long r2), .second, .val (.long r3), .second, .val (.int k), .val (.int qb), .val (.int qd), .val (.ref a), .unset, .unset, .unset, .unset, .unset, .unset, .unset, .unset] [(.ref a)])) _
    refine XS.lloadN X0.here hx rfl (hb hby at_39) rfl ?_
    show Steps p.tables e below (T0.setTop (mkF m 40 #[.val (.int cc), .val (.long r1), .second, .val (.long r2), .second, .val (.long r3), .second, .val (.int k), .val (.int qb), .val (.int qd), .val (.ref a), .unset, .unset, .unset, .unset, .unset, .unset, .unset, .unset] [(.long r1), (.ref a)])) _
    refine st1 _ ?_
    exact kt
set_option maxRecDepth 65536 in
set_option maxHeartbeats 40000000 in
theorem own_rc2 {p : Program} {l : Launch} {e : Env} {s : State} {m : MethodId} {args : Array Value} {below : List Frame} {meth : Method} {c : Code} {T0 : State} {locs : List Loc} {Z : State} {a0 : Array Value} {h0 : Heap} (cc : Int32) (r1 r2 r3 : Int64) (k qb qd : Int32) (a tA oA sA x0 x1 cA y0 y1 : Nat) (S : List (Int32 × Int32 × UInt64))
    (X0 : Stand p l e room_1 s m args below meth c T0 locs (0 + 1 + 8) (0 + 4 + 20)) (hx : p.tables.exec = Jvm.exec) (hZ : Z.Warmed39 s.vm) (hw : ∀ d ∈ tables_1, d.before a0 Z = true) (hby : c.code = code) (hml : c.maxLocals = 19) (hown : s.vm.findClass "com/example/bundlewright/bundlewright/PseudocostsPerUnitPinLaw" = some m.cls) (e0 : T0.heap = h0) (n0 : Nat) (Z0 : n0 ≤ h0.size) (N : Fr n0 locs) (A : own_P Z h0 a tA oA sA x0 x1 cA y0 y1 S) (ch : own_ch n0 a tA oA sA x0 x1 cA y0 y1) (hS : own_small S) :
    ∃ (T' : State) (h' : Heap) (L' : List Loc), Stand p l e room_1 s m args below meth c T' L' (0 + 1 + 8) (0 + 4 + 20) ∧ T'.heap = h' ∧ Fr n0 L' ∧ n0 ≤ h'.size ∧ own_P Z h' a tA oA sA x0 x1 cA y0 y1 (own_nx k 2 S r2) ∧
      ∀ target, Steps p.tables e below (T'.setTop (mkF m 55 #[.val (.int cc), .val (.long r1), .second, .val (.long r2), .second, .val (.long r3), .second, .val (.int k), .val (.int qb), .val (.int qd), .val (.ref a), .unset, .unset, .unset, .unset, .unset, .unset, .unset, .unset] [])) target → Steps p.tables e below (T0.setTop (mkF m 43 #[.val (.int cc), .val (.long r1), .second, .val (.long r2), .second, .val (.long r3), .second, .val (.int k), .val (.int qb), .val (.int qd), .val (.ref a), .unset, .unset, .unset, .unset, .unset, .unset, .unset, .unset] [])) target := by
  by_cases h : k < (2 : Int32)
  · refine ⟨T0, h0, locs, X0, e0, N, Z0, by unfold own_nx; rw [if_pos h]; exact A, fun target kt => ?_⟩
    show Steps p.tables e below (T0.setTop (mkF m 43 #[.val (.int cc), .val (.long r1), .second, .val (.long r2), .second, .val (.long r3), .second, .val (.int k), .val (.int qb), .val (.int qd), .val (.ref a), .unset, .unset, .unset, .unset, .unset, .unset, .unset, .unset] [])) _
    refine XS.iload X0.here hx rfl (hb hby at_43) rfl ?_
    show Steps p.tables e below (T0.setTop (mkF m 45 #[.val (.int cc), .val (.long r1), .second, .val (.long r2), .second, .val (.long r3), .second, .val (.int k), .val (.int qb), .val (.int qd), .val (.ref a), .unset, .unset, .unset, .unset, .unset, .unset, .unset, .unset] [(.int k)])) _
    refine XS.iconst X0.here hx rfl (hb hby at_45) ?_
    show Steps p.tables e below (T0.setTop (mkF m 46 #[.val (.int cc), .val (.long r1), .second, .val (.long r2), .second, .val (.long r3), .second, .val (.int k), .val (.int qb), .val (.int qd), .val (.ref a), .unset, .unset, .unset, .unset, .unset, .unset, .unset, .unset] [(.int (2 : Int32)), (.int k)])) _
    refine XS.icmpYes X0.here hx rfl (pc0 := 46) (pc' := 55) rfl (hb hby at_46) rfl (tlt h).1 (by decide) (by decide) ?_
    exact kt
  ·
    obtain ⟨_, _, ⟨T1, L1, k1, n1⟩, -, X1, ⟨Lc1, hQ1, l1, y1, z1⟩, st1⟩ := Jvm.LawKit.callS X0 hx (y := (⟨"com/example/bundlewright/bundlewright/PseudocostsPerUnitPinLaw", "rec", "(Lcom/example/bundlewright/bundlewright/Pseudocosts;J)V"⟩ : MethodName)) hown (mvT hZ (hw _ (List.mem_of_getElem? (i := 28) rfl))) (mvT hZ (hw _ (List.mem_of_getElem? (i := 29) rfl))) (mvT hZ (hw _ (List.mem_of_getElem? (i := 30) rfl))) (mvT hZ (hw _ (List.mem_of_getElem? (i := 31) rfl))) (by decide) (backOf (W := 0) (rm8 l Z a0 hw [] a tA oA sA x0 x1 cA y0 y1 r2 S h0 n0 Z0 A ch hS) hZ (hw _ (List.mem_of_getElem? (i := 31) rfl)) (hw _ (List.mem_of_getElem? (i := 30) rfl)) (by decide) (by decide)) (g := (mkF m 52 #[.val (.int cc), .val (.long r1), .second, .val (.long r2), .second, .val (.long r3), .second, .val (.int k), .val (.int qb), .val (.int qd), .val (.ref a), .unset, .unset, .unset, .unset, .unset, .unset, .unset, .unset] [(.long r2), (.ref a)])) rfl (by rw [hml]; rfl) (argsL := [(.ref a), (.long r2)]) (rest := []) (lenOf (show parseMethodDescriptor "(Lcom/example/bundlewright/bundlewright/Pseudocosts;J)V" = some ⟨[(.object "com/example/bundlewright/bundlewright/Pseudocosts"), .long], none⟩ from by decide +kernel) rfl) rfl (by show 2 * 0 + _ ≤ _; exact Nat.le_of_eq rfl) (hb hby at_52) (fun _ _ => ⟨rfl, e0, (by decide : 0 + 1 + 8 + 0 ≤ _), (by decide : 0 + 4 + 20 + 0 ≤ _)⟩)
    dsimp only [Pt.U, Pt.locs, Pt.cells, Pt.slots] at X1 l1 y1 z1 st1 hQ1
    subst l1 y1 z1
    obtain ⟨rfl, N1q, P1, hs1⟩ := hQ1
    have N1 := Fr.app N N1q
    refine ⟨T1, _, _, X1, rfl, N1, Nat.le_trans Z0 hs1, by unfold own_nx; rw [if_neg h]; exact P1, fun target kt => ?_⟩
    show Steps p.tables e below (T0.setTop (mkF m 43 #[.val (.int cc), .val (.long r1), .second, .val (.long r2), .second, .val (.long r3), .second, .val (.int k), .val (.int qb), .val (.int qd), .val (.ref a), .unset, .unset, .unset, .unset, .unset, .unset, .unset, .unset] [])) _
    refine XS.iload X0.here hx rfl (hb hby at_43) rfl ?_
    show Steps p.tables e below (T0.setTop (mkF m 45 #[.val (.int cc), .val (.long r1), .second, .val (.long r2), .second, .val (.long r3), .second, .val (.int k), .val (.int qb), .val (.int qd), .val (.ref a), .unset, .unset, .unset, .unset, .unset, .unset, .unset, .unset] [(.int k)])) _
    refine XS.iconst X0.here hx rfl (hb hby at_45) ?_
    show Steps p.tables e below (T0.setTop (mkF m 46 #[.val (.int cc), .val (.long r1), .second, .val (.long r2), .second, .val (.long r3), .second, .val (.int k), .val (.int qb), .val (.int qd), .val (.ref a), .unset, .unset, .unset, .unset, .unset, .unset, .unset, .unset] [(.int (2 : Int32)), (.int k)])) _
    refine XS.icmpNo X0.here hx rfl (hb hby at_46) rfl (flt h).1 ?_
    show Steps p.tables e below (T0.setTop (mkF m 49 #[.val (.int cc), .val (.long r1), .second, .val (.long r2), .second, .val (.long r3), .second, .val (.int k), .val (.int qb), .val (.int qd), .val (.ref a), .unset, .unset, .unset, .unset, .unset, .unset, .unset, .unset] [])) _
    refine XS.aload X0.here hx rfl (hb hby at_49) rfl rfl ?_
    show Steps p.tables e below (T0.setTop (mkF m 51 #[.val (.int cc), .val (.long r1), .second, .val (.long r2), .second, .val (.long r3), .second, .val (.int k), .val (.int qb), .val (.int qd), .val (.ref a), .unset, .unset, .unset, .unset, .unset, .unset, .unset, .unset] [(.ref a)])) _
    refine XS.lloadN X0.here hx rfl (hb hby at_51) rfl ?_
    show Steps p.tables e below (T0.setTop (mkF m 52 #[.val (.int cc), .val (.long r1), .second, .val (.long r2), .second, .val (.long r3), .second, .val (.int k), .val (.int qb), .val (.int qd), .val (.ref a), .unset, .unset, .unset, .unset, .unset, .unset, .unset, .unset] [(.long r2), (.ref a)])) _
    refine st1 _ ?_
    exact kt
set_option maxRecDepth 65536 in
set_option maxHeartbeats 40000000 in
theorem own_rc3 {p : Program} {l : Launch} {e : Env} {s : State} {m : MethodId} {args : Array Value} {below : List Frame} {meth : Method} {c : Code} {T0 : State} {locs : List Loc} {Z : State} {a0 : Array Value} {h0 : Heap} (cc : Int32) (r1 r2 r3 : Int64) (k qb qd : Int32) (a tA oA sA x0 x1 cA y0 y1 : Nat) (S : List (Int32 × Int32 × UInt64))
    (X0 : Stand p l e room_1 s m args below meth c T0 locs (0 + 1 + 8) (0 + 4 + 20)) (hx : p.tables.exec = Jvm.exec) (hZ : Z.Warmed39 s.vm) (hw : ∀ d ∈ tables_1, d.before a0 Z = true) (hby : c.code = code) (hml : c.maxLocals = 19) (hown : s.vm.findClass "com/example/bundlewright/bundlewright/PseudocostsPerUnitPinLaw" = some m.cls) (e0 : T0.heap = h0) (n0 : Nat) (Z0 : n0 ≤ h0.size) (N : Fr n0 locs) (A : own_P Z h0 a tA oA sA x0 x1 cA y0 y1 S) (ch : own_ch n0 a tA oA sA x0 x1 cA y0 y1) (hS : own_small S) :
    ∃ (T' : State) (h' : Heap) (L' : List Loc), Stand p l e room_1 s m args below meth c T' L' (0 + 1 + 8) (0 + 4 + 20) ∧ T'.heap = h' ∧ Fr n0 L' ∧ n0 ≤ h'.size ∧ own_P Z h' a tA oA sA x0 x1 cA y0 y1 (own_nx k 3 S r3) ∧
      ∀ target, Steps p.tables e below (T'.setTop (mkF m 68 #[.val (.int cc), .val (.long r1), .second, .val (.long r2), .second, .val (.long r3), .second, .val (.int k), .val (.int qb), .val (.int qd), .val (.ref a), .unset, .unset, .unset, .unset, .unset, .unset, .unset, .unset] [])) target → Steps p.tables e below (T0.setTop (mkF m 55 #[.val (.int cc), .val (.long r1), .second, .val (.long r2), .second, .val (.long r3), .second, .val (.int k), .val (.int qb), .val (.int qd), .val (.ref a), .unset, .unset, .unset, .unset, .unset, .unset, .unset, .unset] [])) target := by
  by_cases h : k < (3 : Int32)
  · refine ⟨T0, h0, locs, X0, e0, N, Z0, by unfold own_nx; rw [if_pos h]; exact A, fun target kt => ?_⟩
    show Steps p.tables e below (T0.setTop (mkF m 55 #[.val (.int cc), .val (.long r1), .second, .val (.long r2), .second, .val (.long r3), .second, .val (.int k), .val (.int qb), .val (.int qd), .val (.ref a), .unset, .unset, .unset, .unset, .unset, .unset, .unset, .unset] [])) _
    refine XS.iload X0.here hx rfl (hb hby at_55) rfl ?_
    show Steps p.tables e below (T0.setTop (mkF m 57 #[.val (.int cc), .val (.long r1), .second, .val (.long r2), .second, .val (.long r3), .second, .val (.int k), .val (.int qb), .val (.int qd), .val (.ref a), .unset, .unset, .unset, .unset, .unset, .unset, .unset, .unset] [(.int k)])) _
    refine XS.iconst X0.here hx rfl (hb hby at_57) ?_
    show Steps p.tables e below (T0.setTop (mkF m 58 #[.val (.int cc), .val (.long r1), .second, .val (.long r2), .second, .val (.long r3), .second, .val (.int k), .val (.int qb), .val (.int qd), .val (.ref a), .unset, .unset, .unset, .unset, .unset, .unset, .unset, .unset] [(.int (3 : Int32)), (.int k)])) _
    refine XS.icmpYes X0.here hx rfl (pc0 := 58) (pc' := 68) rfl (hb hby at_58) rfl (tlt h).1 (by decide) (by decide) ?_
    exact kt
  ·
    obtain ⟨_, _, ⟨T1, L1, k1, n1⟩, -, X1, ⟨Lc1, hQ1, l1, y1, z1⟩, st1⟩ := Jvm.LawKit.callS X0 hx (y := (⟨"com/example/bundlewright/bundlewright/PseudocostsPerUnitPinLaw", "rec", "(Lcom/example/bundlewright/bundlewright/Pseudocosts;J)V"⟩ : MethodName)) hown (mvT hZ (hw _ (List.mem_of_getElem? (i := 28) rfl))) (mvT hZ (hw _ (List.mem_of_getElem? (i := 29) rfl))) (mvT hZ (hw _ (List.mem_of_getElem? (i := 30) rfl))) (mvT hZ (hw _ (List.mem_of_getElem? (i := 31) rfl))) (by decide) (backOf (W := 0) (rm8 l Z a0 hw [] a tA oA sA x0 x1 cA y0 y1 r3 S h0 n0 Z0 A ch hS) hZ (hw _ (List.mem_of_getElem? (i := 31) rfl)) (hw _ (List.mem_of_getElem? (i := 30) rfl)) (by decide) (by decide)) (g := (mkF m 65 #[.val (.int cc), .val (.long r1), .second, .val (.long r2), .second, .val (.long r3), .second, .val (.int k), .val (.int qb), .val (.int qd), .val (.ref a), .unset, .unset, .unset, .unset, .unset, .unset, .unset, .unset] [(.long r3), (.ref a)])) rfl (by rw [hml]; rfl) (argsL := [(.ref a), (.long r3)]) (rest := []) (lenOf (show parseMethodDescriptor "(Lcom/example/bundlewright/bundlewright/Pseudocosts;J)V" = some ⟨[(.object "com/example/bundlewright/bundlewright/Pseudocosts"), .long], none⟩ from by decide +kernel) rfl) rfl (by show 2 * 0 + _ ≤ _; exact Nat.le_of_eq rfl) (hb hby at_65) (fun _ _ => ⟨rfl, e0, (by decide : 0 + 1 + 8 + 0 ≤ _), (by decide : 0 + 4 + 20 + 0 ≤ _)⟩)
    dsimp only [Pt.U, Pt.locs, Pt.cells, Pt.slots] at X1 l1 y1 z1 st1 hQ1
    subst l1 y1 z1
    obtain ⟨rfl, N1q, P1, hs1⟩ := hQ1
    have N1 := Fr.app N N1q
    refine ⟨T1, _, _, X1, rfl, N1, Nat.le_trans Z0 hs1, by unfold own_nx; rw [if_neg h]; exact P1, fun target kt => ?_⟩
    show Steps p.tables e below (T0.setTop (mkF m 55 #[.val (.int cc), .val (.long r1), .second, .val (.long r2), .second, .val (.long r3), .second, .val (.int k), .val (.int qb), .val (.int qd), .val (.ref a), .unset, .unset, .unset, .unset, .unset, .unset, .unset, .unset] [])) _
    refine XS.iload X0.here hx rfl (hb hby at_55) rfl ?_
    show Steps p.tables e below (T0.setTop (mkF m 57 #[.val (.int cc), .val (.long r1), .second, .val (.long r2), .second, .val (.long r3), .second, .val (.int k), .val (.int qb), .val (.int qd), .val (.ref a), .unset, .unset, .unset, .unset, .unset, .unset, .unset, .unset] [(.int k)])) _
    refine XS.iconst X0.here hx rfl (hb hby at_57) ?_
    show Steps p.tables e below (T0.setTop (mkF m 58 #[.val (.int cc), .val (.long r1), .second, .val (.long r2), .second, .val (.long r3), .second, .val (.int k), .val (.int qb), .val (.int qd), .val (.ref a), .unset, .unset, .unset, .unset, .unset, .unset, .unset, .unset] [(.int (3 : Int32)), (.int k)])) _
    refine XS.icmpNo X0.here hx rfl (hb hby at_58) rfl (flt h).1 ?_
    show Steps p.tables e below (T0.setTop (mkF m 61 #[.val (.int cc), .val (.long r1), .second, .val (.long r2), .second, .val (.long r3), .second, .val (.int k), .val (.int qb), .val (.int qd), .val (.ref a), .unset, .unset, .unset, .unset, .unset, .unset, .unset, .unset] [])) _
    refine XS.aload X0.here hx rfl (hb hby at_61) rfl rfl ?_
    show Steps p.tables e below (T0.setTop (mkF m 63 #[.val (.int cc), .val (.long r1), .second, .val (.long r2), .second, .val (.long r3), .second, .val (.int k), .val (.int qb), .val (.int qd), .val (.ref a), .unset, .unset, .unset, .unset, .unset, .unset, .unset, .unset] [(.ref a)])) _
    refine XS.lload X0.here hx rfl (hb hby at_63) rfl ?_
    show Steps p.tables e below (T0.setTop (mkF m 65 #[.val (.int cc), .val (.long r1), .second, .val (.long r2), .second, .val (.long r3), .second, .val (.int k), .val (.int qb), .val (.int qd), .val (.ref a), .unset, .unset, .unset, .unset, .unset, .unset, .unset, .unset] [(.long r3), (.ref a)])) _
    refine st1 _ ?_
    exact kt
set_option maxRecDepth 65536 in
set_option maxHeartbeats 40000000 in
theorem own_ac1 {p : Program} {l : Launch} {e : Env} {s : State} {m : MethodId} {args : Array Value} {below : List Frame} {meth : Method} {c : Code} {T0 : State} {locs : List Loc} {Z : State} {a0 : Array Value} {h0 : Heap} (cc : Int32) (r1 r2 r3 : Int64) (k qb qd : Int32) (a : Nat) (S : List (Int32 × Int32 × UInt64))
    (X0 : Stand p l e room_1 s m args below meth c T0 locs (0 + 1 + 8) (0 + 4 + 20)) (hx : p.tables.exec = Jvm.exec) (hZ : Z.Warmed39 s.vm) (hw : ∀ d ∈ tables_1, d.before a0 Z = true) (hby : c.code = code) (hml : c.maxLocals = 19) (hown : s.vm.findClass "com/example/bundlewright/bundlewright/PseudocostsPerUnitPinLaw" = some m.cls) (e0 : T0.heap = h0) (n0 : Nat) (Z0 : n0 ≤ h0.size) (N : Fr n0 locs) (hS : own_small S) :
    ∃ (T' : State) (L' : List Loc), Stand p l e room_1 s m args below meth c T' L' (0 + 1 + 8) (0 + 4 + 20) ∧ T'.heap = h0 ∧ Fr n0 L' ∧
      ∀ target, Steps p.tables e below (T'.setTop (mkF m 128 #[.val (.int cc), .val (.long r1), .second, .val (.long r2), .second, .val (.long r3), .second, .val (.int k), .val (.int qb), .val (.int qd), .val (.ref a), .val (.double (own_sum (own_nx k 1 S r1) qd qb)), .second, .val (.double (own_tot (own_nx k 1 S r1) qd)), .second, .val (.int (own_cnt (own_nx k 1 S r1) qd qb)), .val (.int (own_obs (own_nx k 1 S r1) qd)), .unset, .unset] [])) target → Steps p.tables e below (T0.setTop (mkF m 80 #[.val (.int cc), .val (.long r1), .second, .val (.long r2), .second, .val (.long r3), .second, .val (.int k), .val (.int qb), .val (.int qd), .val (.ref a), .val (.double (own_sum S qd qb)), .second, .val (.double (own_tot S qd)), .second, .val (.int (own_cnt S qd qb)), .val (.int (own_obs S qd)), .unset, .unset] [])) target := by
  by_cases h : k < (1 : Int32)
  · have enx : (own_nx k 1 S r1) = S := by unfold own_nx; rw [if_pos h]
    refine ⟨T0, locs, X0, e0, N, fun target kt => ?_⟩
    rw [enx] at kt
    show Steps p.tables e below (T0.setTop (mkF m 80 #[.val (.int cc), .val (.long r1), .second, .val (.long r2), .second, .val (.long r3), .second, .val (.int k), .val (.int qb), .val (.int qd), .val (.ref a), .val (.double (own_sum S qd qb)), .second, .val (.double (own_tot S qd)), .second, .val (.int (own_cnt S qd qb)), .val (.int (own_obs S qd)), .unset, .unset] [])) _
    refine XS.iload X0.here hx rfl (hb hby at_80) rfl ?_
    show Steps p.tables e below (T0.setTop (mkF m 82 #[.val (.int cc), .val (.long r1), .second, .val (.long r2), .second, .val (.long r3), .second, .val (.int k), .val (.int qb), .val (.int qd), .val (.ref a), .val (.double (own_sum S qd qb)), .second, .val (.double (own_tot S qd)), .second, .val (.int (own_cnt S qd qb)), .val (.int (own_obs S qd)), .unset, .unset] [(.int k)])) _
    refine XS.iconst X0.here hx rfl (hb hby at_82) ?_
    show Steps p.tables e below (T0.setTop (mkF m 83 #[.val (.int cc), .val (.long r1), .second, .val (.long r2), .second, .val (.long r3), .second, .val (.int k), .val (.int qb), .val (.int qd), .val (.ref a), .val (.double (own_sum S qd qb)), .second, .val (.double (own_tot S qd)), .second, .val (.int (own_cnt S qd qb)), .val (.int (own_obs S qd)), .unset, .unset] [(.int (1 : Int32)), (.int k)])) _
    refine XS.icmpYes X0.here hx rfl (pc0 := 83) (pc' := 128) rfl (hb hby at_83) rfl (tlt h).1 (by decide) (by decide) ?_
    exact kt
  · obtain ⟨_, _, ⟨T1, L1, k1, n1⟩, -, X1, ⟨Lc1, hQ1, l1, y1, z1⟩, st1⟩ := Jvm.LawKit.callS X0 hx (y := (⟨"com/example/bundlewright/bundlewright/PseudocostsPerUnitPinLaw", "dir", "(J)I"⟩ : MethodName)) hown (mvT hZ (hw _ (List.mem_of_getElem? (i := 36) rfl))) (mvT hZ (hw _ (List.mem_of_getElem? (i := 37) rfl))) (mvT hZ (hw _ (List.mem_of_getElem? (i := 30) rfl))) (mvT hZ (hw _ (List.mem_of_getElem? (i := 38) rfl))) (by decide) (backOf (W := 0) (rm3 l Z a0 hw [] r1 h0 n0 Z0) hZ (hw _ (List.mem_of_getElem? (i := 38) rfl)) (hw _ (List.mem_of_getElem? (i := 30) rfl)) (by decide) (by decide)) (g := (mkF m 87 #[.val (.int cc), .val (.long r1), .second, .val (.long r2), .second, .val (.long r3), .second, .val (.int k), .val (.int qb), .val (.int qd), .val (.ref a), .val (.double (own_sum S qd qb)), .second, .val (.double (own_tot S qd)), .second, .val (.int (own_cnt S qd qb)), .val (.int (own_obs S qd)), .unset, .unset] [(.long r1)])) rfl (by rw [hml]; rfl) (argsL := [(.long r1)]) (rest := []) (lenOf (show parseMethodDescriptor "(J)I" = some ⟨[.long], (some .int)⟩ from by decide +kernel) rfl) rfl (by show 2 * 0 + _ ≤ _; exact Nat.le_of_eq rfl) (hb hby at_87) (fun _ _ => ⟨rfl, e0, (by decide : 0 + 1 + 8 + 0 ≤ _), (by decide : 0 + 4 + 20 + 0 ≤ _)⟩)
    dsimp only [Pt.U, Pt.locs, Pt.cells, Pt.slots] at X1 l1 y1 z1 st1 hQ1
    subst l1 y1 z1
    obtain ⟨rfl, N1q, e1⟩ := hQ1
    have N1 := Fr.app N N1q
    by_cases hq : own_dir_f0 r1 = qd
    · obtain ⟨_, _, ⟨T2, L2, k2, n2⟩, -, X2, ⟨Lc2, hQ2, l2, y2, z2⟩, st2⟩ := Jvm.LawKit.callS X1 hx (y := (⟨"com/example/bundlewright/bundlewright/PseudocostsPerUnitPinLaw", "val", "(J)D"⟩ : MethodName)) hown (mvT hZ (hw _ (List.mem_of_getElem? (i := 54) rfl))) (mvT hZ (hw _ (List.mem_of_getElem? (i := 55) rfl))) (mvT hZ (hw _ (List.mem_of_getElem? (i := 30) rfl))) (mvT hZ (hw _ (List.mem_of_getElem? (i := 56) rfl))) (by decide) (backOf (W := 2) (rm6 l Z a0 hw [] r1 h0 n0 Z0) hZ (hw _ (List.mem_of_getElem? (i := 56) rfl)) (hw _ (List.mem_of_getElem? (i := 30) rfl)) (by decide) (by decide)) (g := (mkF m 98 #[.val (.int cc), .val (.long r1), .second, .val (.long r2), .second, .val (.long r3), .second, .val (.int k), .val (.int qb), .val (.int qd), .val (.ref a), .val (.double (own_sum S qd qb)), .second, .val (.double (own_tot S qd)), .second, .val (.int (own_cnt S qd qb)), .val (.int (own_obs S qd)), .unset, .unset] [(.long r1), (.double (own_tot S qd))])) rfl (by rw [hml]; rfl) (argsL := [(.long r1)]) (rest := [(.double (own_tot S qd))]) (lenOf (show parseMethodDescriptor "(J)D" = some ⟨[.long], (some .double)⟩ from by decide +kernel) rfl) rfl (by show 2 * 0 + _ ≤ _; exact Nat.le_of_eq rfl) (hb hby at_98) (fun _ _ => ⟨rfl, e1, (by decide : 0 + 1 + 8 + 0 ≤ _), (by decide : 0 + 4 + 20 + 0 ≤ _)⟩)
      dsimp only [Pt.U, Pt.locs, Pt.cells, Pt.slots] at X2 l2 y2 z2 st2 hQ2
      subst l2 y2 z2
      obtain ⟨rfl, N2q, e2⟩ := hQ2
      have N2 := Fr.app N1 N2q
      obtain ⟨_, _, ⟨T3, L3, k3, n3⟩, -, X3, ⟨Lc3, hQ3, l3, y3, z3⟩, st3⟩ := Jvm.LawKit.callS X2 hx (y := (⟨"com/example/bundlewright/bundlewright/PseudocostsPerUnitPinLaw", "bid", "(J)I"⟩ : MethodName)) hown (mvT hZ (hw _ (List.mem_of_getElem? (i := 32) rfl))) (mvT hZ (hw _ (List.mem_of_getElem? (i := 33) rfl))) (mvT hZ (hw _ (List.mem_of_getElem? (i := 30) rfl))) (mvT hZ (hw _ (List.mem_of_getElem? (i := 34) rfl))) (by decide) (backOf (W := 0) (rm2 l Z a0 hw [] r1 h0 n0 Z0) hZ (hw _ (List.mem_of_getElem? (i := 34) rfl)) (hw _ (List.mem_of_getElem? (i := 30) rfl)) (by decide) (by decide)) (g := (mkF m 108 #[.val (.int cc), .val (.long r1), .second, .val (.long r2), .second, .val (.long r3), .second, .val (.int k), .val (.int qb), .val (.int qd), .val (.ref a), .val (.double (own_sum S qd qb)), .second, .val (.double (FP.dadd (own_tot S qd) (own_val r1))), .second, .val (.int (own_cnt S qd qb)), .val (.int ((own_obs S qd) + (1 : Int32))), .unset, .unset] [(.long r1)])) rfl (by rw [hml]; rfl) (argsL := [(.long r1)]) (rest := []) (lenOf (show parseMethodDescriptor "(J)I" = some ⟨[.long], (some .int)⟩ from by decide +kernel) rfl) rfl (by show 2 * 0 + _ ≤ _; exact Nat.le_of_eq rfl) (hb hby at_108) (fun _ _ => ⟨rfl, e2, (by decide : 0 + 1 + 8 + 0 ≤ _), (by decide : 0 + 4 + 20 + 0 ≤ _)⟩)
      dsimp only [Pt.U, Pt.locs, Pt.cells, Pt.slots] at X3 l3 y3 z3 st3 hQ3
      subst l3 y3 z3
      obtain ⟨rfl, N3q, e3⟩ := hQ3
      have N3 := Fr.app N2 N3q
      by_cases hp : own_bid_f0 r1 = qb
      · obtain ⟨_, _, ⟨T4, L4, k4, n4⟩, -, X4, ⟨Lc4, hQ4, l4, y4, z4⟩, st4⟩ := Jvm.LawKit.callS X3 hx (y := (⟨"com/example/bundlewright/bundlewright/PseudocostsPerUnitPinLaw", "val", "(J)D"⟩ : MethodName)) hown (mvT hZ (hw _ (List.mem_of_getElem? (i := 54) rfl))) (mvT hZ (hw _ (List.mem_of_getElem? (i := 55) rfl))) (mvT hZ (hw _ (List.mem_of_getElem? (i := 30) rfl))) (mvT hZ (hw _ (List.mem_of_getElem? (i := 56) rfl))) (by decide) (backOf (W := 2) (rm6 l Z a0 hw [] r1 h0 n0 Z0) hZ (hw _ (List.mem_of_getElem? (i := 56) rfl)) (hw _ (List.mem_of_getElem? (i := 30) rfl)) (by decide) (by decide)) (g := (mkF m 119 #[.val (.int cc), .val (.long r1), .second, .val (.long r2), .second, .val (.long r3), .second, .val (.int k), .val (.int qb), .val (.int qd), .val (.ref a), .val (.double (own_sum S qd qb)), .second, .val (.double (FP.dadd (own_tot S qd) (own_val r1))), .second, .val (.int (own_cnt S qd qb)), .val (.int ((own_obs S qd) + (1 : Int32))), .unset, .unset] [(.long r1), (.double (own_sum S qd qb))])) rfl (by rw [hml]; rfl) (argsL := [(.long r1)]) (rest := [(.double (own_sum S qd qb))]) (lenOf (show parseMethodDescriptor "(J)D" = some ⟨[.long], (some .double)⟩ from by decide +kernel) rfl) rfl (by show 2 * 0 + _ ≤ _; exact Nat.le_of_eq rfl) (hb hby at_119) (fun _ _ => ⟨rfl, e3, (by decide : 0 + 1 + 8 + 0 ≤ _), (by decide : 0 + 4 + 20 + 0 ≤ _)⟩)
        dsimp only [Pt.U, Pt.locs, Pt.cells, Pt.slots] at X4 l4 y4 z4 st4 hQ4
        subst l4 y4 z4
        obtain ⟨rfl, N4q, e4⟩ := hQ4
        have N4 := Fr.app N3 N4q
        have enx : (own_nx k 1 S r1) = S ++ [(own_bid_f0 r1, own_dir_f0 r1, own_val r1)] := by unfold own_nx; rw [if_neg h]; rfl
        have t1 : own_tot (own_nx k 1 S r1) qd = FP.dadd (own_tot S qd) (own_val r1) := by rw [enx, own_tot_s, if_pos hq]
        have t2 : own_obs (own_nx k 1 S r1) qd = own_obs S qd + 1 := by rw [enx, own_obs_s, if_pos hq]
        have t3 : own_sum (own_nx k 1 S r1) qd qb = FP.dadd (own_sum S qd qb) (own_val r1) := by rw [enx, own_sum_s, if_pos ⟨hq, hp⟩]
        have t4 : own_cnt (own_nx k 1 S r1) qd qb = own_cnt S qd qb + 1 := by rw [enx, own_cnt_s, if_pos ⟨hq, hp⟩]
        refine ⟨T4, _, X4, e4, N4, fun target kt => ?_⟩
        rw [t1, t2, t3, t4] at kt
        show Steps p.tables e below (T0.setTop (mkF m 80 #[.val (.int cc), .val (.long r1), .second, .val (.long r2), .second, .val (.long r3), .second, .val (.int k), .val (.int qb), .val (.int qd), .val (.ref a), .val (.double (own_sum S qd qb)), .second, .val (.double (own_tot S qd)), .second, .val (.int (own_cnt S qd qb)), .val (.int (own_obs S qd)), .unset, .unset] [])) _
        refine XS.iload X0.here hx rfl (hb hby at_80) rfl ?_
        show Steps p.tables e below (T0.setTop (mkF m 82 #[.val (.int cc), .val (.long r1), .second, .val (.long r2), .second, .val (.long r3), .second, .val (.int k), .val (.int qb), .val (.int qd), .val (.ref a), .val (.double (own_sum S qd qb)), .second, .val (.double (own_tot S qd)), .second, .val (.int (own_cnt S qd qb)), .val (.int (own_obs S qd)), .unset, .unset] [(.int k)])) _
        refine XS.iconst X0.here hx rfl (hb hby at_82) ?_
        show Steps p.tables e below (T0.setTop (mkF m 83 #[.val (.int cc), .val (.long r1), .second, .val (.long r2), .second, .val (.long r3), .second, .val (.int k), .val (.int qb), .val (.int qd), .val (.ref a), .val (.double (own_sum S qd qb)), .second, .val (.double (own_tot S qd)), .second, .val (.int (own_cnt S qd qb)), .val (.int (own_obs S qd)), .unset, .unset] [(.int (1 : Int32)), (.int k)])) _
        refine XS.icmpNo X0.here hx rfl (hb hby at_83) rfl (flt h).1 ?_
        show Steps p.tables e below (T0.setTop (mkF m 86 #[.val (.int cc), .val (.long r1), .second, .val (.long r2), .second, .val (.long r3), .second, .val (.int k), .val (.int qb), .val (.int qd), .val (.ref a), .val (.double (own_sum S qd qb)), .second, .val (.double (own_tot S qd)), .second, .val (.int (own_cnt S qd qb)), .val (.int (own_obs S qd)), .unset, .unset] [])) _
        refine XS.lloadN X0.here hx rfl (hb hby at_86) rfl ?_
        show Steps p.tables e below (T0.setTop (mkF m 87 #[.val (.int cc), .val (.long r1), .second, .val (.long r2), .second, .val (.long r3), .second, .val (.int k), .val (.int qb), .val (.int qd), .val (.ref a), .val (.double (own_sum S qd qb)), .second, .val (.double (own_tot S qd)), .second, .val (.int (own_cnt S qd qb)), .val (.int (own_obs S qd)), .unset, .unset] [(.long r1)])) _
        refine st1 _ ?_
        show Steps p.tables e below (T1.setTop (mkF m 90 #[.val (.int cc), .val (.long r1), .second, .val (.long r2), .second, .val (.long r3), .second, .val (.int k), .val (.int qb), .val (.int qd), .val (.ref a), .val (.double (own_sum S qd qb)), .second, .val (.double (own_tot S qd)), .second, .val (.int (own_cnt S qd qb)), .val (.int (own_obs S qd)), .unset, .unset] [(.int (own_dir_f0 r1))])) _
        refine XS.iload X1.here hx rfl (hb hby at_90) rfl ?_
        show Steps p.tables e below (T1.setTop (mkF m 92 #[.val (.int cc), .val (.long r1), .second, .val (.long r2), .second, .val (.long r3), .second, .val (.int k), .val (.int qb), .val (.int qd), .val (.ref a), .val (.double (own_sum S qd qb)), .second, .val (.double (own_tot S qd)), .second, .val (.int (own_cnt S qd qb)), .val (.int (own_obs S qd)), .unset, .unset] [(.int qd), (.int (own_dir_f0 r1))])) _
        refine XS.icmpNo X1.here hx rfl (hb hby at_92) rfl (teq hq).2 ?_
        show Steps p.tables e below (T1.setTop (mkF m 95 #[.val (.int cc), .val (.long r1), .second, .val (.long r2), .second, .val (.long r3), .second, .val (.int k), .val (.int qb), .val (.int qd), .val (.ref a), .val (.double (own_sum S qd qb)), .second, .val (.double (own_tot S qd)), .second, .val (.int (own_cnt S qd qb)), .val (.int (own_obs S qd)), .unset, .unset] [])) _
        refine XS.dload X1.here hx rfl (hb hby at_95) rfl ?_
        show Steps p.tables e below (T1.setTop (mkF m 97 #[.val (.int cc), .val (.long r1), .second, .val (.long r2), .second, .val (.long r3), .second, .val (.int k), .val (.int qb), .val (.int qd), .val (.ref a), .val (.double (own_sum S qd qb)), .second, .val (.double (own_tot S qd)), .second, .val (.int (own_cnt S qd qb)), .val (.int (own_obs S qd)), .unset, .unset] [(.double (own_tot S qd))])) _
        refine XS.lloadN X1.here hx rfl (hb hby at_97) rfl ?_
        show Steps p.tables e below (T1.setTop (mkF m 98 #[.val (.int cc), .val (.long r1), .second, .val (.long r2), .second, .val (.long r3), .second, .val (.int k), .val (.int qb), .val (.int qd), .val (.ref a), .val (.double (own_sum S qd qb)), .second, .val (.double (own_tot S qd)), .second, .val (.int (own_cnt S qd qb)), .val (.int (own_obs S qd)), .unset, .unset] [(.long r1), (.double (own_tot S qd))])) _
        refine st2 _ ?_
        show Steps p.tables e below (T2.setTop (mkF m 101 #[.val (.int cc), .val (.long r1), .second, .val (.long r2), .second, .val (.long r3), .second, .val (.int k), .val (.int qb), .val (.int qd), .val (.ref a), .val (.double (own_sum S qd qb)), .second, .val (.double (own_tot S qd)), .second, .val (.int (own_cnt S qd qb)), .val (.int (own_obs S qd)), .unset, .unset] [(.double (own_val r1)), (.double (own_tot S qd))])) _
        refine XS.daddS X2.here hx rfl (hb hby at_101) rfl (own_add_nn (own_tot_mag hS qd) (own_val_mag r1)) rfl ?_
        show Steps p.tables e below (T2.setTop (mkF m 102 #[.val (.int cc), .val (.long r1), .second, .val (.long r2), .second, .val (.long r3), .second, .val (.int k), .val (.int qb), .val (.int qd), .val (.ref a), .val (.double (own_sum S qd qb)), .second, .val (.double (own_tot S qd)), .second, .val (.int (own_cnt S qd qb)), .val (.int (own_obs S qd)), .unset, .unset] [(.double (FP.dadd (own_tot S qd) (own_val r1)))])) _
        refine XS.dstore X2.here hx rfl (hb hby at_102) rfl (l' := #[.val (.int cc), .val (.long r1), .second, .val (.long r2), .second, .val (.long r3), .second, .val (.int k), .val (.int qb), .val (.int qd), .val (.ref a), .val (.double (own_sum S qd qb)), .second, .val (.double (FP.dadd (own_tot S qd) (own_val r1))), .second, .val (.int (own_cnt S qd qb)), .val (.int (own_obs S qd)), .unset, .unset]) rfl ?_
        show Steps p.tables e below (T2.setTop (mkF m 104 #[.val (.int cc), .val (.long r1), .second, .val (.long r2), .second, .val (.long r3), .second, .val (.int k), .val (.int qb), .val (.int qd), .val (.ref a), .val (.double (own_sum S qd qb)), .second, .val (.double (FP.dadd (own_tot S qd) (own_val r1))), .second, .val (.int (own_cnt S qd qb)), .val (.int (own_obs S qd)), .unset, .unset] [])) _
        refine XS.iinc X2.here hx rfl (hb hby at_104) rfl (l' := #[.val (.int cc), .val (.long r1), .second, .val (.long r2), .second, .val (.long r3), .second, .val (.int k), .val (.int qb), .val (.int qd), .val (.ref a), .val (.double (own_sum S qd qb)), .second, .val (.double (FP.dadd (own_tot S qd) (own_val r1))), .second, .val (.int (own_cnt S qd qb)), .val (.int ((own_obs S qd) + (1 : Int32))), .unset, .unset]) rfl ?_
        show Steps p.tables e below (T2.setTop (mkF m 107 #[.val (.int cc), .val (.long r1), .second, .val (.long r2), .second, .val (.long r3), .second, .val (.int k), .val (.int qb), .val (.int qd), .val (.ref a), .val (.double (own_sum S qd qb)), .second, .val (.double (FP.dadd (own_tot S qd) (own_val r1))), .second, .val (.int (own_cnt S qd qb)), .val (.int ((own_obs S qd) + (1 : Int32))), .unset, .unset] [])) _
        refine XS.lloadN X2.here hx rfl (hb hby at_107) rfl ?_
        show Steps p.tables e below (T2.setTop (mkF m 108 #[.val (.int cc), .val (.long r1), .second, .val (.long r2), .second, .val (.long r3), .second, .val (.int k), .val (.int qb), .val (.int qd), .val (.ref a), .val (.double (own_sum S qd qb)), .second, .val (.double (FP.dadd (own_tot S qd) (own_val r1))), .second, .val (.int (own_cnt S qd qb)), .val (.int ((own_obs S qd) + (1 : Int32))), .unset, .unset] [(.long r1)])) _
        refine st3 _ ?_
        show Steps p.tables e below (T3.setTop (mkF m 111 #[.val (.int cc), .val (.long r1), .second, .val (.long r2), .second, .val (.long r3), .second, .val (.int k), .val (.int qb), .val (.int qd), .val (.ref a), .val (.double (own_sum S qd qb)), .second, .val (.double (FP.dadd (own_tot S qd) (own_val r1))), .second, .val (.int (own_cnt S qd qb)), .val (.int ((own_obs S qd) + (1 : Int32))), .unset, .unset] [(.int (own_bid_f0 r1))])) _
        refine XS.iload X3.here hx rfl (hb hby at_111) rfl ?_
        show Steps p.tables e below (T3.setTop (mkF m 113 #[.val (.int cc), .val (.long r1), .second, .val (.long r2), .second, .val (.long r3), .second, .val (.int k), .val (.int qb), .val (.int qd), .val (.ref a), .val (.double (own_sum S qd qb)), .second, .val (.double (FP.dadd (own_tot S qd) (own_val r1))), .second, .val (.int (own_cnt S qd qb)), .val (.int ((own_obs S qd) + (1 : Int32))), .unset, .unset] [(.int qb), (.int (own_bid_f0 r1))])) _
        refine XS.icmpNo X3.here hx rfl (hb hby at_113) rfl (teq hp).2 ?_
        show Steps p.tables e below (T3.setTop (mkF m 116 #[.val (.int cc), .val (.long r1), .second, .val (.long r2), .second, .val (.long r3), .second, .val (.int k), .val (.int qb), .val (.int qd), .val (.ref a), .val (.double (own_sum S qd qb)), .second, .val (.double (FP.dadd (own_tot S qd) (own_val r1))), .second, .val (.int (own_cnt S qd qb)), .val (.int ((own_obs S qd) + (1 : Int32))), .unset, .unset] [])) _
        refine XS.dload X3.here hx rfl (hb hby at_116) rfl ?_
        show Steps p.tables e below (T3.setTop (mkF m 118 #[.val (.int cc), .val (.long r1), .second, .val (.long r2), .second, .val (.long r3), .second, .val (.int k), .val (.int qb), .val (.int qd), .val (.ref a), .val (.double (own_sum S qd qb)), .second, .val (.double (FP.dadd (own_tot S qd) (own_val r1))), .second, .val (.int (own_cnt S qd qb)), .val (.int ((own_obs S qd) + (1 : Int32))), .unset, .unset] [(.double (own_sum S qd qb))])) _
        refine XS.lloadN X3.here hx rfl (hb hby at_118) rfl ?_
        show Steps p.tables e below (T3.setTop (mkF m 119 #[.val (.int cc), .val (.long r1), .second, .val (.long r2), .second, .val (.long r3), .second, .val (.int k), .val (.int qb), .val (.int qd), .val (.ref a), .val (.double (own_sum S qd qb)), .second, .val (.double (FP.dadd (own_tot S qd) (own_val r1))), .second, .val (.int (own_cnt S qd qb)), .val (.int ((own_obs S qd) + (1 : Int32))), .unset, .unset] [(.long r1), (.double (own_sum S qd qb))])) _
        refine st4 _ ?_
        show Steps p.tables e below (T4.setTop (mkF m 122 #[.val (.int cc), .val (.long r1), .second, .val (.long r2), .second, .val (.long r3), .second, .val (.int k), .val (.int qb), .val (.int qd), .val (.ref a), .val (.double (own_sum S qd qb)), .second, .val (.double (FP.dadd (own_tot S qd) (own_val r1))), .second, .val (.int (own_cnt S qd qb)), .val (.int ((own_obs S qd) + (1 : Int32))), .unset, .unset] [(.double (own_val r1)), (.double (own_sum S qd qb))])) _
        refine XS.daddS X4.here hx rfl (hb hby at_122) rfl (own_add_nn (own_sum_mag hS qd qb) (own_val_mag r1)) rfl ?_
        show Steps p.tables e below (T4.setTop (mkF m 123 #[.val (.int cc), .val (.long r1), .second, .val (.long r2), .second, .val (.long r3), .second, .val (.int k), .val (.int qb), .val (.int qd), .val (.ref a), .val (.double (own_sum S qd qb)), .second, .val (.double (FP.dadd (own_tot S qd) (own_val r1))), .second, .val (.int (own_cnt S qd qb)), .val (.int ((own_obs S qd) + (1 : Int32))), .unset, .unset] [(.double (FP.dadd (own_sum S qd qb) (own_val r1)))])) _
        refine XS.dstore X4.here hx rfl (hb hby at_123) rfl (l' := #[.val (.int cc), .val (.long r1), .second, .val (.long r2), .second, .val (.long r3), .second, .val (.int k), .val (.int qb), .val (.int qd), .val (.ref a), .val (.double (FP.dadd (own_sum S qd qb) (own_val r1))), .second, .val (.double (FP.dadd (own_tot S qd) (own_val r1))), .second, .val (.int (own_cnt S qd qb)), .val (.int ((own_obs S qd) + (1 : Int32))), .unset, .unset]) rfl ?_
        show Steps p.tables e below (T4.setTop (mkF m 125 #[.val (.int cc), .val (.long r1), .second, .val (.long r2), .second, .val (.long r3), .second, .val (.int k), .val (.int qb), .val (.int qd), .val (.ref a), .val (.double (FP.dadd (own_sum S qd qb) (own_val r1))), .second, .val (.double (FP.dadd (own_tot S qd) (own_val r1))), .second, .val (.int (own_cnt S qd qb)), .val (.int ((own_obs S qd) + (1 : Int32))), .unset, .unset] [])) _
        refine XS.iinc X4.here hx rfl (hb hby at_125) rfl (l' := #[.val (.int cc), .val (.long r1), .second, .val (.long r2), .second, .val (.long r3), .second, .val (.int k), .val (.int qb), .val (.int qd), .val (.ref a), .val (.double (FP.dadd (own_sum S qd qb) (own_val r1))), .second, .val (.double (FP.dadd (own_tot S qd) (own_val r1))), .second, .val (.int ((own_cnt S qd qb) + (1 : Int32))), .val (.int ((own_obs S qd) + (1 : Int32))), .unset, .unset]) rfl ?_
        exact kt
      · have enx : (own_nx k 1 S r1) = S ++ [(own_bid_f0 r1, own_dir_f0 r1, own_val r1)] := by unfold own_nx; rw [if_neg h]; rfl
        have t1 : own_tot (own_nx k 1 S r1) qd = FP.dadd (own_tot S qd) (own_val r1) := by rw [enx, own_tot_s, if_pos hq]
        have t2 : own_obs (own_nx k 1 S r1) qd = own_obs S qd + 1 := by rw [enx, own_obs_s, if_pos hq]
        have t3 : own_sum (own_nx k 1 S r1) qd qb = own_sum S qd qb := by rw [enx, own_sum_s, if_neg (fun q => hp q.2)]
        have t4 : own_cnt (own_nx k 1 S r1) qd qb = own_cnt S qd qb := by rw [enx, own_cnt_s, if_neg (fun q => hp q.2)]
        refine ⟨T3, _, X3, e3, N3, fun target kt => ?_⟩
        rw [t1, t2, t3, t4] at kt
        show Steps p.tables e below (T0.setTop (mkF m 80 #[.val (.int cc), .val (.long r1), .second, .val (.long r2), .second, .val (.long r3), .second, .val (.int k), .val (.int qb), .val (.int qd), .val (.ref a), .val (.double (own_sum S qd qb)), .second, .val (.double (own_tot S qd)), .second, .val (.int (own_cnt S qd qb)), .val (.int (own_obs S qd)), .unset, .unset] [])) _
        refine XS.iload X0.here hx rfl (hb hby at_80) rfl ?_
        show Steps p.tables e below (T0.setTop (mkF m 82 #[.val (.int cc), .val (.long r1), .second, .val (.long r2), .second, .val (.long r3), .second, .val (.int k), .val (.int qb), .val (.int qd), .val (.ref a), .val (.double (own_sum S qd qb)), .second, .val (.double (own_tot S qd)), .second, .val (.int (own_cnt S qd qb)), .val (.int (own_obs S qd)), .unset, .unset] [(.int k)])) _
        refine XS.iconst X0.here hx rfl (hb hby at_82) ?_
        show Steps p.tables e below (T0.setTop (mkF m 83 #[.val (.int cc), .val (.long r1), .second, .val (.long r2), .second, .val (.long r3), .second, .val (.int k), .val (.int qb), .val (.int qd), .val (.ref a), .val (.double (own_sum S qd qb)), .second, .val (.double (own_tot S qd)), .second, .val (.int (own_cnt S qd qb)), .val (.int (own_obs S qd)), .unset, .unset] [(.int (1 : Int32)), (.int k)])) _
        refine XS.icmpNo X0.here hx rfl (hb hby at_83) rfl (flt h).1 ?_
        show Steps p.tables e below (T0.setTop (mkF m 86 #[.val (.int cc), .val (.long r1), .second, .val (.long r2), .second, .val (.long r3), .second, .val (.int k), .val (.int qb), .val (.int qd), .val (.ref a), .val (.double (own_sum S qd qb)), .second, .val (.double (own_tot S qd)), .second, .val (.int (own_cnt S qd qb)), .val (.int (own_obs S qd)), .unset, .unset] [])) _
        refine XS.lloadN X0.here hx rfl (hb hby at_86) rfl ?_
        show Steps p.tables e below (T0.setTop (mkF m 87 #[.val (.int cc), .val (.long r1), .second, .val (.long r2), .second, .val (.long r3), .second, .val (.int k), .val (.int qb), .val (.int qd), .val (.ref a), .val (.double (own_sum S qd qb)), .second, .val (.double (own_tot S qd)), .second, .val (.int (own_cnt S qd qb)), .val (.int (own_obs S qd)), .unset, .unset] [(.long r1)])) _
        refine st1 _ ?_
        show Steps p.tables e below (T1.setTop (mkF m 90 #[.val (.int cc), .val (.long r1), .second, .val (.long r2), .second, .val (.long r3), .second, .val (.int k), .val (.int qb), .val (.int qd), .val (.ref a), .val (.double (own_sum S qd qb)), .second, .val (.double (own_tot S qd)), .second, .val (.int (own_cnt S qd qb)), .val (.int (own_obs S qd)), .unset, .unset] [(.int (own_dir_f0 r1))])) _
        refine XS.iload X1.here hx rfl (hb hby at_90) rfl ?_
        show Steps p.tables e below (T1.setTop (mkF m 92 #[.val (.int cc), .val (.long r1), .second, .val (.long r2), .second, .val (.long r3), .second, .val (.int k), .val (.int qb), .val (.int qd), .val (.ref a), .val (.double (own_sum S qd qb)), .second, .val (.double (own_tot S qd)), .second, .val (.int (own_cnt S qd qb)), .val (.int (own_obs S qd)), .unset, .unset] [(.int qd), (.int (own_dir_f0 r1))])) _
        refine XS.icmpNo X1.here hx rfl (hb hby at_92) rfl (teq hq).2 ?_
        show Steps p.tables e below (T1.setTop (mkF m 95 #[.val (.int cc), .val (.long r1), .second, .val (.long r2), .second, .val (.long r3), .second, .val (.int k), .val (.int qb), .val (.int qd), .val (.ref a), .val (.double (own_sum S qd qb)), .second, .val (.double (own_tot S qd)), .second, .val (.int (own_cnt S qd qb)), .val (.int (own_obs S qd)), .unset, .unset] [])) _
        refine XS.dload X1.here hx rfl (hb hby at_95) rfl ?_
        show Steps p.tables e below (T1.setTop (mkF m 97 #[.val (.int cc), .val (.long r1), .second, .val (.long r2), .second, .val (.long r3), .second, .val (.int k), .val (.int qb), .val (.int qd), .val (.ref a), .val (.double (own_sum S qd qb)), .second, .val (.double (own_tot S qd)), .second, .val (.int (own_cnt S qd qb)), .val (.int (own_obs S qd)), .unset, .unset] [(.double (own_tot S qd))])) _
        refine XS.lloadN X1.here hx rfl (hb hby at_97) rfl ?_
        show Steps p.tables e below (T1.setTop (mkF m 98 #[.val (.int cc), .val (.long r1), .second, .val (.long r2), .second, .val (.long r3), .second, .val (.int k), .val (.int qb), .val (.int qd), .val (.ref a), .val (.double (own_sum S qd qb)), .second, .val (.double (own_tot S qd)), .second, .val (.int (own_cnt S qd qb)), .val (.int (own_obs S qd)), .unset, .unset] [(.long r1), (.double (own_tot S qd))])) _
        refine st2 _ ?_
        show Steps p.tables e below (T2.setTop (mkF m 101 #[.val (.int cc), .val (.long r1), .second, .val (.long r2), .second, .val (.long r3), .second, .val (.int k), .val (.int qb), .val (.int qd), .val (.ref a), .val (.double (own_sum S qd qb)), .second, .val (.double (own_tot S qd)), .second, .val (.int (own_cnt S qd qb)), .val (.int (own_obs S qd)), .unset, .unset] [(.double (own_val r1)), (.double (own_tot S qd))])) _
        refine XS.daddS X2.here hx rfl (hb hby at_101) rfl (own_add_nn (own_tot_mag hS qd) (own_val_mag r1)) rfl ?_
        show Steps p.tables e below (T2.setTop (mkF m 102 #[.val (.int cc), .val (.long r1), .second, .val (.long r2), .second, .val (.long r3), .second, .val (.int k), .val (.int qb), .val (.int qd), .val (.ref a), .val (.double (own_sum S qd qb)), .second, .val (.double (own_tot S qd)), .second, .val (.int (own_cnt S qd qb)), .val (.int (own_obs S qd)), .unset, .unset] [(.double (FP.dadd (own_tot S qd) (own_val r1)))])) _
        refine XS.dstore X2.here hx rfl (hb hby at_102) rfl (l' := #[.val (.int cc), .val (.long r1), .second, .val (.long r2), .second, .val (.long r3), .second, .val (.int k), .val (.int qb), .val (.int qd), .val (.ref a), .val (.double (own_sum S qd qb)), .second, .val (.double (FP.dadd (own_tot S qd) (own_val r1))), .second, .val (.int (own_cnt S qd qb)), .val (.int (own_obs S qd)), .unset, .unset]) rfl ?_
        show Steps p.tables e below (T2.setTop (mkF m 104 #[.val (.int cc), .val (.long r1), .second, .val (.long r2), .second, .val (.long r3), .second, .val (.int k), .val (.int qb), .val (.int qd), .val (.ref a), .val (.double (own_sum S qd qb)), .second, .val (.double (FP.dadd (own_tot S qd) (own_val r1))), .second, .val (.int (own_cnt S qd qb)), .val (.int (own_obs S qd)), .unset, .unset] [])) _
        refine XS.iinc X2.here hx rfl (hb hby at_104) rfl (l' := #[.val (.int cc), .val (.long r1), .second, .val (.long r2), .second, .val (.long r3), .second, .val (.int k), .val (.int qb), .val (.int qd), .val (.ref a), .val (.double (own_sum S qd qb)), .second, .val (.double (FP.dadd (own_tot S qd) (own_val r1))), .second, .val (.int (own_cnt S qd qb)), .val (.int ((own_obs S qd) + (1 : Int32))), .unset, .unset]) rfl ?_
        show Steps p.tables e below (T2.setTop (mkF m 107 #[.val (.int cc), .val (.long r1), .second, .val (.long r2), .second, .val (.long r3), .second, .val (.int k), .val (.int qb), .val (.int qd), .val (.ref a), .val (.double (own_sum S qd qb)), .second, .val (.double (FP.dadd (own_tot S qd) (own_val r1))), .second, .val (.int (own_cnt S qd qb)), .val (.int ((own_obs S qd) + (1 : Int32))), .unset, .unset] [])) _
        refine XS.lloadN X2.here hx rfl (hb hby at_107) rfl ?_
        show Steps p.tables e below (T2.setTop (mkF m 108 #[.val (.int cc), .val (.long r1), .second, .val (.long r2), .second, .val (.long r3), .second, .val (.int k), .val (.int qb), .val (.int qd), .val (.ref a), .val (.double (own_sum S qd qb)), .second, .val (.double (FP.dadd (own_tot S qd) (own_val r1))), .second, .val (.int (own_cnt S qd qb)), .val (.int ((own_obs S qd) + (1 : Int32))), .unset, .unset] [(.long r1)])) _
        refine st3 _ ?_
        show Steps p.tables e below (T3.setTop (mkF m 111 #[.val (.int cc), .val (.long r1), .second, .val (.long r2), .second, .val (.long r3), .second, .val (.int k), .val (.int qb), .val (.int qd), .val (.ref a), .val (.double (own_sum S qd qb)), .second, .val (.double (FP.dadd (own_tot S qd) (own_val r1))), .second, .val (.int (own_cnt S qd qb)), .val (.int ((own_obs S qd) + (1 : Int32))), .unset, .unset] [(.int (own_bid_f0 r1))])) _
        refine XS.iload X3.here hx rfl (hb hby at_111) rfl ?_
        show Steps p.tables e below (T3.setTop (mkF m 113 #[.val (.int cc), .val (.long r1), .second, .val (.long r2), .second, .val (.long r3), .second, .val (.int k), .val (.int qb), .val (.int qd), .val (.ref a), .val (.double (own_sum S qd qb)), .second, .val (.double (FP.dadd (own_tot S qd) (own_val r1))), .second, .val (.int (own_cnt S qd qb)), .val (.int ((own_obs S qd) + (1 : Int32))), .unset, .unset] [(.int qb), (.int (own_bid_f0 r1))])) _
        refine XS.icmpYes X3.here hx rfl (pc0 := 113) (pc' := 128) rfl (hb hby at_113) rfl (feq hp).2 (by decide) (by decide) ?_
        exact kt
    · have enx : (own_nx k 1 S r1) = S ++ [(own_bid_f0 r1, own_dir_f0 r1, own_val r1)] := by unfold own_nx; rw [if_neg h]; rfl
      have t1 : own_tot (own_nx k 1 S r1) qd = own_tot S qd := by rw [enx, own_tot_s, if_neg hq]
      have t2 : own_obs (own_nx k 1 S r1) qd = own_obs S qd := by rw [enx, own_obs_s, if_neg hq]
      have t3 : own_sum (own_nx k 1 S r1) qd qb = own_sum S qd qb := by rw [enx, own_sum_s, if_neg (fun q => hq q.1)]
      have t4 : own_cnt (own_nx k 1 S r1) qd qb = own_cnt S qd qb := by rw [enx, own_cnt_s, if_neg (fun q => hq q.1)]
      refine ⟨T1, _, X1, e1, N1, fun target kt => ?_⟩
      rw [t1, t2, t3, t4] at kt
      show Steps p.tables e below (T0.setTop (mkF m 80 #[.val (.int cc), .val (.long r1), .second, .val (.long r2), .second, .val (.long r3), .second, .val (.int k), .val (.int qb), .val (.int qd), .val (.ref a), .val (.double (own_sum S qd qb)), .second, .val (.double (own_tot S qd)), .second, .val (.int (own_cnt S qd qb)), .val (.int (own_obs S qd)), .unset, .unset] [])) _
      refine XS.iload X0.here hx rfl (hb hby at_80) rfl ?_
      show Steps p.tables e below (T0.setTop (mkF m 82 #[.val (.int cc), .val (.long r1), .second, .val (.long r2), .second, .val (.long r3), .second, .val (.int k), .val (.int qb), .val (.int qd), .val (.ref a), .val (.double (own_sum S qd qb)), .second, .val (.double (own_tot S qd)), .second, .val (.int (own_cnt S qd qb)), .val (.int (own_obs S qd)), .unset, .unset] [(.int k)])) _
      refine XS.iconst X0.here hx rfl (hb hby at_82) ?_
      show Steps p.tables e below (T0.setTop (mkF m 83 #[.val (.int cc), .val (.long r1), .second, .val (.long r2), .second, .val (.long r3), .second, .val (.int k), .val (.int qb), .val (.int qd), .val (.ref a), .val (.double (own_sum S qd qb)), .second, .val (.double (own_tot S qd)), .second, .val (.int (own_cnt S qd qb)), .val (.int (own_obs S qd)), .unset, .unset] [(.int (1 : Int32)), (.int k)])) _
      refine XS.icmpNo X0.here hx rfl (hb hby at_83) rfl (flt h).1 ?_
      show Steps p.tables e below (T0.setTop (mkF m 86 #[.val (.int cc), .val (.long r1), .second, .val (.long r2), .second, .val (.long r3), .second, .val (.int k), .val (.int qb), .val (.int qd), .val (.ref a), .val (.double (own_sum S qd qb)), .second, .val (.double (own_tot S qd)), .second, .val (.int (own_cnt S qd qb)), .val (.int (own_obs S qd)), .unset, .unset] [])) _
      refine XS.lloadN X0.here hx rfl (hb hby at_86) rfl ?_
      show Steps p.tables e below (T0.setTop (mkF m 87 #[.val (.int cc), .val (.long r1), .second, .val (.long r2), .second, .val (.long r3), .second, .val (.int k), .val (.int qb), .val (.int qd), .val (.ref a), .val (.double (own_sum S qd qb)), .second, .val (.double (own_tot S qd)), .second, .val (.int (own_cnt S qd qb)), .val (.int (own_obs S qd)), .unset, .unset] [(.long r1)])) _
      refine st1 _ ?_
      show Steps p.tables e below (T1.setTop (mkF m 90 #[.val (.int cc), .val (.long r1), .second, .val (.long r2), .second, .val (.long r3), .second, .val (.int k), .val (.int qb), .val (.int qd), .val (.ref a), .val (.double (own_sum S qd qb)), .second, .val (.double (own_tot S qd)), .second, .val (.int (own_cnt S qd qb)), .val (.int (own_obs S qd)), .unset, .unset] [(.int (own_dir_f0 r1))])) _
      refine XS.iload X1.here hx rfl (hb hby at_90) rfl ?_
      show Steps p.tables e below (T1.setTop (mkF m 92 #[.val (.int cc), .val (.long r1), .second, .val (.long r2), .second, .val (.long r3), .second, .val (.int k), .val (.int qb), .val (.int qd), .val (.ref a), .val (.double (own_sum S qd qb)), .second, .val (.double (own_tot S qd)), .second, .val (.int (own_cnt S qd qb)), .val (.int (own_obs S qd)), .unset, .unset] [(.int qd), (.int (own_dir_f0 r1))])) _
      refine XS.icmpYes X1.here hx rfl (pc0 := 92) (pc' := 128) rfl (hb hby at_92) rfl (feq hq).2 (by decide) (by decide) ?_
      exact kt
set_option maxRecDepth 65536 in
set_option maxHeartbeats 40000000 in
theorem own_ac2 {p : Program} {l : Launch} {e : Env} {s : State} {m : MethodId} {args : Array Value} {below : List Frame} {meth : Method} {c : Code} {T0 : State} {locs : List Loc} {Z : State} {a0 : Array Value} {h0 : Heap} (cc : Int32) (r1 r2 r3 : Int64) (k qb qd : Int32) (a : Nat) (S : List (Int32 × Int32 × UInt64))
    (X0 : Stand p l e room_1 s m args below meth c T0 locs (0 + 1 + 8) (0 + 4 + 20)) (hx : p.tables.exec = Jvm.exec) (hZ : Z.Warmed39 s.vm) (hw : ∀ d ∈ tables_1, d.before a0 Z = true) (hby : c.code = code) (hml : c.maxLocals = 19) (hown : s.vm.findClass "com/example/bundlewright/bundlewright/PseudocostsPerUnitPinLaw" = some m.cls) (e0 : T0.heap = h0) (n0 : Nat) (Z0 : n0 ≤ h0.size) (N : Fr n0 locs) (hS : own_small S) :
    ∃ (T' : State) (L' : List Loc), Stand p l e room_1 s m args below meth c T' L' (0 + 1 + 8) (0 + 4 + 20) ∧ T'.heap = h0 ∧ Fr n0 L' ∧
      ∀ target, Steps p.tables e below (T'.setTop (mkF m 176 #[.val (.int cc), .val (.long r1), .second, .val (.long r2), .second, .val (.long r3), .second, .val (.int k), .val (.int qb), .val (.int qd), .val (.ref a), .val (.double (own_sum (own_nx k 2 S r2) qd qb)), .second, .val (.double (own_tot (own_nx k 2 S r2) qd)), .second, .val (.int (own_cnt (own_nx k 2 S r2) qd qb)), .val (.int (own_obs (own_nx k 2 S r2) qd)), .unset, .unset] [])) target → Steps p.tables e below (T0.setTop (mkF m 128 #[.val (.int cc), .val (.long r1), .second, .val (.long r2), .second, .val (.long r3), .second, .val (.int k), .val (.int qb), .val (.int qd), .val (.ref a), .val (.double (own_sum S qd qb)), .second, .val (.double (own_tot S qd)), .second, .val (.int (own_cnt S qd qb)), .val (.int (own_obs S qd)), .unset, .unset] [])) target := by
  by_cases h : k < (2 : Int32)
  · have enx : (own_nx k 2 S r2) = S := by unfold own_nx; rw [if_pos h]
    refine ⟨T0, locs, X0, e0, N, fun target kt => ?_⟩
    rw [enx] at kt
    show Steps p.tables e below (T0.setTop (mkF m 128 #[.val (.int cc), .val (.long r1), .second, .val (.long r2), .second, .val (.long r3), .second, .val (.int k), .val (.int qb), .val (.int qd), .val (.ref a), .val (.double (own_sum S qd qb)), .second, .val (.double (own_tot S qd)), .second, .val (.int (own_cnt S qd qb)), .val (.int (own_obs S qd)), .unset, .unset] [])) _
    refine XS.iload X0.here hx rfl (hb hby at_128) rfl ?_
    show Steps p.tables e below (T0.setTop (mkF m 130 #[.val (.int cc), .val (.long r1), .second, .val (.long r2), .second, .val (.long r3), .second, .val (.int k), .val (.int qb), .val (.int qd), .val (.ref a), .val (.double (own_sum S qd qb)), .second, .val (.double (own_tot S qd)), .second, .val (.int (own_cnt S qd qb)), .val (.int (own_obs S qd)), .unset, .unset] [(.int k)])) _
    refine XS.iconst X0.here hx rfl (hb hby at_130) ?_
    show Steps p.tables e below (T0.setTop (mkF m 131 #[.val (.int cc), .val (.long r1), .second, .val (.long r2), .second, .val (.long r3), .second, .val (.int k), .val (.int qb), .val (.int qd), .val (.ref a), .val (.double (own_sum S qd qb)), .second, .val (.double (own_tot S qd)), .second, .val (.int (own_cnt S qd qb)), .val (.int (own_obs S qd)), .unset, .unset] [(.int (2 : Int32)), (.int k)])) _
    refine XS.icmpYes X0.here hx rfl (pc0 := 131) (pc' := 176) rfl (hb hby at_131) rfl (tlt h).1 (by decide) (by decide) ?_
    exact kt
  · obtain ⟨_, _, ⟨T1, L1, k1, n1⟩, -, X1, ⟨Lc1, hQ1, l1, y1, z1⟩, st1⟩ := Jvm.LawKit.callS X0 hx (y := (⟨"com/example/bundlewright/bundlewright/PseudocostsPerUnitPinLaw", "dir", "(J)I"⟩ : MethodName)) hown (mvT hZ (hw _ (List.mem_of_getElem? (i := 36) rfl))) (mvT hZ (hw _ (List.mem_of_getElem? (i := 37) rfl))) (mvT hZ (hw _ (List.mem_of_getElem? (i := 30) rfl))) (mvT hZ (hw _ (List.mem_of_getElem? (i := 38) rfl))) (by decide) (backOf (W := 0) (rm3 l Z a0 hw [] r2 h0 n0 Z0) hZ (hw _ (List.mem_of_getElem? (i := 38) rfl)) (hw _ (List.mem_of_getElem? (i := 30) rfl)) (by decide) (by decide)) (g := (mkF m 135 #[.val (.int cc), .val (.long r1), .second, .val (.long r2), .second, .val (.long r3), .second, .val (.int k), .val (.int qb), .val (.int qd), .val (.ref a), .val (.double (own_sum S qd qb)), .second, .val (.double (own_tot S qd)), .second, .val (.int (own_cnt S qd qb)), .val (.int (own_obs S qd)), .unset, .unset] [(.long r2)])) rfl (by rw [hml]; rfl) (argsL := [(.long r2)]) (rest := []) (lenOf (show parseMethodDescriptor "(J)I" = some ⟨[.long], (some .int)⟩ from by decide +kernel) rfl) rfl (by show 2 * 0 + _ ≤ _; exact Nat.le_of_eq rfl) (hb hby at_135) (fun _ _ => ⟨rfl, e0, (by decide : 0 + 1 + 8 + 0 ≤ _), (by decide : 0 + 4 + 20 + 0 ≤ _)⟩)
    dsimp only [Pt.U, Pt.locs, Pt.cells, Pt.slots] at X1 l1 y1 z1 st1 hQ1
    subst l1 y1 z1
    obtain ⟨rfl, N1q, e1⟩ := hQ1
    have N1 := Fr.app N N1q
    by_cases hq : own_dir_f0 r2 = qd
    · obtain ⟨_, _, ⟨T2, L2, k2, n2⟩, -, X2, ⟨Lc2, hQ2, l2, y2, z2⟩, st2⟩ := Jvm.LawKit.callS X1 hx (y := (⟨"com/example/bundlewright/bundlewright/PseudocostsPerUnitPinLaw", "val", "(J)D"⟩ : MethodName)) hown (mvT hZ (hw _ (List.mem_of_getElem? (i := 54) rfl))) (mvT hZ (hw _ (List.mem_of_getElem? (i := 55) rfl))) (mvT hZ (hw _ (List.mem_of_getElem? (i := 30) rfl))) (mvT hZ (hw _ (List.mem_of_getElem? (i := 56) rfl))) (by decide) (backOf (W := 2) (rm6 l Z a0 hw [] r2 h0 n0 Z0) hZ (hw _ (List.mem_of_getElem? (i := 56) rfl)) (hw _ (List.mem_of_getElem? (i := 30) rfl)) (by decide) (by decide)) (g := (mkF m 146 #[.val (.int cc), .val (.long r1), .second, .val (.long r2), .second, .val (.long r3), .second, .val (.int k), .val (.int qb), .val (.int qd), .val (.ref a), .val (.double (own_sum S qd qb)), .second, .val (.double (own_tot S qd)), .second, .val (.int (own_cnt S qd qb)), .val (.int (own_obs S qd)), .unset, .unset] [(.long r2), (.double (own_tot S qd))])) rfl (by rw [hml]; rfl) (argsL := [(.long r2)]) (rest := [(.double (own_tot S qd))]) (lenOf (show parseMethodDescriptor "(J)D" = some ⟨[.long], (some .double)⟩ from by decide +kernel) rfl) rfl (by show 2 * 0 + _ ≤ _; exact Nat.le_of_eq rfl) (hb hby at_146) (fun _ _ => ⟨rfl, e1, (by decide : 0 + 1 + 8 + 0 ≤ _), (by decide : 0 + 4 + 20 + 0 ≤ _)⟩)
      dsimp only [Pt.U, Pt.locs, Pt.cells, Pt.slots] at X2 l2 y2 z2 st2 hQ2
      subst l2 y2 z2
      obtain ⟨rfl, N2q, e2⟩ := hQ2
      have N2 := Fr.app N1 N2q
      obtain ⟨_, _, ⟨T3, L3, k3, n3⟩, -, X3, ⟨Lc3, hQ3, l3, y3, z3⟩, st3⟩ := Jvm.LawKit.callS X2 hx (y := (⟨"com/example/bundlewright/bundlewright/PseudocostsPerUnitPinLaw", "bid", "(J)I"⟩ : MethodName)) hown (mvT hZ (hw _ (List.mem_of_getElem? (i := 32) rfl))) (mvT hZ (hw _ (List.mem_of_getElem? (i := 33) rfl))) (mvT hZ (hw _ (List.mem_of_getElem? (i := 30) rfl))) (mvT hZ (hw _ (List.mem_of_getElem? (i := 34) rfl))) (by decide) (backOf (W := 0) (rm2 l Z a0 hw [] r2 h0 n0 Z0) hZ (hw _ (List.mem_of_getElem? (i := 34) rfl)) (hw _ (List.mem_of_getElem? (i := 30) rfl)) (by decide) (by decide)) (g := (mkF m 156 #[.val (.int cc), .val (.long r1), .second, .val (.long r2), .second, .val (.long r3), .second, .val (.int k), .val (.int qb), .val (.int qd), .val (.ref a), .val (.double (own_sum S qd qb)), .second, .val (.double (FP.dadd (own_tot S qd) (own_val r2))), .second, .val (.int (own_cnt S qd qb)), .val (.int ((own_obs S qd) + (1 : Int32))), .unset, .unset] [(.long r2)])) rfl (by rw [hml]; rfl) (argsL := [(.long r2)]) (rest := []) (lenOf (show parseMethodDescriptor "(J)I" = some ⟨[.long], (some .int)⟩ from by decide +kernel) rfl) rfl (by show 2 * 0 + _ ≤ _; exact Nat.le_of_eq rfl) (hb hby at_156) (fun _ _ => ⟨rfl, e2, (by decide : 0 + 1 + 8 + 0 ≤ _), (by decide : 0 + 4 + 20 + 0 ≤ _)⟩)
      dsimp only [Pt.U, Pt.locs, Pt.cells, Pt.slots] at X3 l3 y3 z3 st3 hQ3
      subst l3 y3 z3
      obtain ⟨rfl, N3q, e3⟩ := hQ3
      have N3 := Fr.app N2 N3q
      by_cases hp : own_bid_f0 r2 = qb
      · obtain ⟨_, _, ⟨T4, L4, k4, n4⟩, -, X4, ⟨Lc4, hQ4, l4, y4, z4⟩, st4⟩ := Jvm.LawKit.callS X3 hx (y := (⟨"com/example/bundlewright/bundlewright/PseudocostsPerUnitPinLaw", "val", "(J)D"⟩ : MethodName)) hown (mvT hZ (hw _ (List.mem_of_getElem? (i := 54) rfl))) (mvT hZ (hw _ (List.mem_of_getElem? (i := 55) rfl))) (mvT hZ (hw _ (List.mem_of_getElem? (i := 30) rfl))) (mvT hZ (hw _ (List.mem_of_getElem? (i := 56) rfl))) (by decide) (backOf (W := 2) (rm6 l Z a0 hw [] r2 h0 n0 Z0) hZ (hw _ (List.mem_of_getElem? (i := 56) rfl)) (hw _ (List.mem_of_getElem? (i := 30) rfl)) (by decide) (by decide)) (g := (mkF m 167 #[.val (.int cc), .val (.long r1), .second, .val (.long r2), .second, .val (.long r3), .second, .val (.int k), .val (.int qb), .val (.int qd), .val (.ref a), .val (.double (own_sum S qd qb)), .second, .val (.double (FP.dadd (own_tot S qd) (own_val r2))), .second, .val (.int (own_cnt S qd qb)), .val (.int ((own_obs S qd) + (1 : Int32))), .unset, .unset] [(.long r2), (.double (own_sum S qd qb))])) rfl (by rw [hml]; rfl) (argsL := [(.long r2)]) (rest := [(.double (own_sum S qd qb))]) (lenOf (show parseMethodDescriptor "(J)D" = some ⟨[.long], (some .double)⟩ from by decide +kernel) rfl) rfl (by show 2 * 0 + _ ≤ _; exact Nat.le_of_eq rfl) (hb hby at_167) (fun _ _ => ⟨rfl, e3, (by decide : 0 + 1 + 8 + 0 ≤ _), (by decide : 0 + 4 + 20 + 0 ≤ _)⟩)
        dsimp only [Pt.U, Pt.locs, Pt.cells, Pt.slots] at X4 l4 y4 z4 st4 hQ4
        subst l4 y4 z4
        obtain ⟨rfl, N4q, e4⟩ := hQ4
        have N4 := Fr.app N3 N4q
        have enx : (own_nx k 2 S r2) = S ++ [(own_bid_f0 r2, own_dir_f0 r2, own_val r2)] := by unfold own_nx; rw [if_neg h]; rfl
        have t1 : own_tot (own_nx k 2 S r2) qd = FP.dadd (own_tot S qd) (own_val r2) := by rw [enx, own_tot_s, if_pos hq]
        have t2 : own_obs (own_nx k 2 S r2) qd = own_obs S qd + 1 := by rw [enx, own_obs_s, if_pos hq]
        have t3 : own_sum (own_nx k 2 S r2) qd qb = FP.dadd (own_sum S qd qb) (own_val r2) := by rw [enx, own_sum_s, if_pos ⟨hq, hp⟩]
        have t4 : own_cnt (own_nx k 2 S r2) qd qb = own_cnt S qd qb + 1 := by rw [enx, own_cnt_s, if_pos ⟨hq, hp⟩]
        refine ⟨T4, _, X4, e4, N4, fun target kt => ?_⟩
        rw [t1, t2, t3, t4] at kt
        show Steps p.tables e below (T0.setTop (mkF m 128 #[.val (.int cc), .val (.long r1), .second, .val (.long r2), .second, .val (.long r3), .second, .val (.int k), .val (.int qb), .val (.int qd), .val (.ref a), .val (.double (own_sum S qd qb)), .second, .val (.double (own_tot S qd)), .second, .val (.int (own_cnt S qd qb)), .val (.int (own_obs S qd)), .unset, .unset] [])) _
        refine XS.iload X0.here hx rfl (hb hby at_128) rfl ?_
        show Steps p.tables e below (T0.setTop (mkF m 130 #[.val (.int cc), .val (.long r1), .second, .val (.long r2), .second, .val (.long r3), .second, .val (.int k), .val (.int qb), .val (.int qd), .val (.ref a), .val (.double (own_sum S qd qb)), .second, .val (.double (own_tot S qd)), .second, .val (.int (own_cnt S qd qb)), .val (.int (own_obs S qd)), .unset, .unset] [(.int k)])) _
        refine XS.iconst X0.here hx rfl (hb hby at_130) ?_
        show Steps p.tables e below (T0.setTop (mkF m 131 #[.val (.int cc), .val (.long r1), .second, .val (.long r2), .second, .val (.long r3), .second, .val (.int k), .val (.int qb), .val (.int qd), .val (.ref a), .val (.double (own_sum S qd qb)), .second, .val (.double (own_tot S qd)), .second, .val (.int (own_cnt S qd qb)), .val (.int (own_obs S qd)), .unset, .unset] [(.int (2 : Int32)), (.int k)])) _
        refine XS.icmpNo X0.here hx rfl (hb hby at_131) rfl (flt h).1 ?_
        show Steps p.tables e below (T0.setTop (mkF m 134 #[.val (.int cc), .val (.long r1), .second, .val (.long r2), .second, .val (.long r3), .second, .val (.int k), .val (.int qb), .val (.int qd), .val (.ref a), .val (.double (own_sum S qd qb)), .second, .val (.double (own_tot S qd)), .second, .val (.int (own_cnt S qd qb)), .val (.int (own_obs S qd)), .unset, .unset] [])) _
        refine XS.lloadN X0.here hx rfl (hb hby at_134) rfl ?_
        show Steps p.tables e below (T0.setTop (mkF m 135 #[.val (.int cc), .val (.long r1), .second, .val (.long r2), .second, .val (.long r3), .second, .val (.int k), .val (.int qb), .val (.int qd), .val (.ref a), .val (.double (own_sum S qd qb)), .second, .val (.double (own_tot S qd)), .second, .val (.int (own_cnt S qd qb)), .val (.int (own_obs S qd)), .unset, .unset] [(.long r2)])) _
        refine st1 _ ?_
        show Steps p.tables e below (T1.setTop (mkF m 138 #[.val (.int cc), .val (.long r1), .second, .val (.long r2), .second, .val (.long r3), .second, .val (.int k), .val (.int qb), .val (.int qd), .val (.ref a), .val (.double (own_sum S qd qb)), .second, .val (.double (own_tot S qd)), .second, .val (.int (own_cnt S qd qb)), .val (.int (own_obs S qd)), .unset, .unset] [(.int (own_dir_f0 r2))])) _
        refine XS.iload X1.here hx rfl (hb hby at_138) rfl ?_
        show Steps p.tables e below (T1.setTop (mkF m 140 #[.val (.int cc), .val (.long r1), .second, .val (.long r2), .second, .val (.long r3), .second, .val (.int k), .val (.int qb), .val (.int qd), .val (.ref a), .val (.double (own_sum S qd qb)), .second, .val (.double (own_tot S qd)), .second, .val (.int (own_cnt S qd qb)), .val (.int (own_obs S qd)), .unset, .unset] [(.int qd), (.int (own_dir_f0 r2))])) _
        refine XS.icmpNo X1.here hx rfl (hb hby at_140) rfl (teq hq).2 ?_
        show Steps p.tables e below (T1.setTop (mkF m 143 #[.val (.int cc), .val (.long r1), .second, .val (.long r2), .second, .val (.long r3), .second, .val (.int k), .val (.int qb), .val (.int qd), .val (.ref a), .val (.double (own_sum S qd qb)), .second, .val (.double (own_tot S qd)), .second, .val (.int (own_cnt S qd qb)), .val (.int (own_obs S qd)), .unset, .unset] [])) _
        refine XS.dload X1.here hx rfl (hb hby at_143) rfl ?_
        show Steps p.tables e below (T1.setTop (mkF m 145 #[.val (.int cc), .val (.long r1), .second, .val (.long r2), .second, .val (.long r3), .second, .val (.int k), .val (.int qb), .val (.int qd), .val (.ref a), .val (.double (own_sum S qd qb)), .second, .val (.double (own_tot S qd)), .second, .val (.int (own_cnt S qd qb)), .val (.int (own_obs S qd)), .unset, .unset] [(.double (own_tot S qd))])) _
        refine XS.lloadN X1.here hx rfl (hb hby at_145) rfl ?_
        show Steps p.tables e below (T1.setTop (mkF m 146 #[.val (.int cc), .val (.long r1), .second, .val (.long r2), .second, .val (.long r3), .second, .val (.int k), .val (.int qb), .val (.int qd), .val (.ref a), .val (.double (own_sum S qd qb)), .second, .val (.double (own_tot S qd)), .second, .val (.int (own_cnt S qd qb)), .val (.int (own_obs S qd)), .unset, .unset] [(.long r2), (.double (own_tot S qd))])) _
        refine st2 _ ?_
        show Steps p.tables e below (T2.setTop (mkF m 149 #[.val (.int cc), .val (.long r1), .second, .val (.long r2), .second, .val (.long r3), .second, .val (.int k), .val (.int qb), .val (.int qd), .val (.ref a), .val (.double (own_sum S qd qb)), .second, .val (.double (own_tot S qd)), .second, .val (.int (own_cnt S qd qb)), .val (.int (own_obs S qd)), .unset, .unset] [(.double (own_val r2)), (.double (own_tot S qd))])) _
        refine XS.daddS X2.here hx rfl (hb hby at_149) rfl (own_add_nn (own_tot_mag hS qd) (own_val_mag r2)) rfl ?_
        show Steps p.tables e below (T2.setTop (mkF m 150 #[.val (.int cc), .val (.long r1), .second, .val (.long r2), .second, .val (.long r3), .second, .val (.int k), .val (.int qb), .val (.int qd), .val (.ref a), .val (.double (own_sum S qd qb)), .second, .val (.double (own_tot S qd)), .second, .val (.int (own_cnt S qd qb)), .val (.int (own_obs S qd)), .unset, .unset] [(.double (FP.dadd (own_tot S qd) (own_val r2)))])) _
        refine XS.dstore X2.here hx rfl (hb hby at_150) rfl (l' := #[.val (.int cc), .val (.long r1), .second, .val (.long r2), .second, .val (.long r3), .second, .val (.int k), .val (.int qb), .val (.int qd), .val (.ref a), .val (.double (own_sum S qd qb)), .second, .val (.double (FP.dadd (own_tot S qd) (own_val r2))), .second, .val (.int (own_cnt S qd qb)), .val (.int (own_obs S qd)), .unset, .unset]) rfl ?_
        show Steps p.tables e below (T2.setTop (mkF m 152 #[.val (.int cc), .val (.long r1), .second, .val (.long r2), .second, .val (.long r3), .second, .val (.int k), .val (.int qb), .val (.int qd), .val (.ref a), .val (.double (own_sum S qd qb)), .second, .val (.double (FP.dadd (own_tot S qd) (own_val r2))), .second, .val (.int (own_cnt S qd qb)), .val (.int (own_obs S qd)), .unset, .unset] [])) _
        refine XS.iinc X2.here hx rfl (hb hby at_152) rfl (l' := #[.val (.int cc), .val (.long r1), .second, .val (.long r2), .second, .val (.long r3), .second, .val (.int k), .val (.int qb), .val (.int qd), .val (.ref a), .val (.double (own_sum S qd qb)), .second, .val (.double (FP.dadd (own_tot S qd) (own_val r2))), .second, .val (.int (own_cnt S qd qb)), .val (.int ((own_obs S qd) + (1 : Int32))), .unset, .unset]) rfl ?_
        show Steps p.tables e below (T2.setTop (mkF m 155 #[.val (.int cc), .val (.long r1), .second, .val (.long r2), .second, .val (.long r3), .second, .val (.int k), .val (.int qb), .val (.int qd), .val (.ref a), .val (.double (own_sum S qd qb)), .second, .val (.double (FP.dadd (own_tot S qd) (own_val r2))), .second, .val (.int (own_cnt S qd qb)), .val (.int ((own_obs S qd) + (1 : Int32))), .unset, .unset] [])) _
        refine XS.lloadN X2.here hx rfl (hb hby at_155) rfl ?_
        show Steps p.tables e below (T2.setTop (mkF m 156 #[.val (.int cc), .val (.long r1), .second, .val (.long r2), .second, .val (.long r3), .second, .val (.int k), .val (.int qb), .val (.int qd), .val (.ref a), .val (.double (own_sum S qd qb)), .second, .val (.double (FP.dadd (own_tot S qd) (own_val r2))), .second, .val (.int (own_cnt S qd qb)), .val (.int ((own_obs S qd) + (1 : Int32))), .unset, .unset] [(.long r2)])) _
        refine st3 _ ?_
        show Steps p.tables e below (T3.setTop (mkF m 159 #[.val (.int cc), .val (.long r1), .second, .val (.long r2), .second, .val (.long r3), .second, .val (.int k), .val (.int qb), .val (.int qd), .val (.ref a), .val (.double (own_sum S qd qb)), .second, .val (.double (FP.dadd (own_tot S qd) (own_val r2))), .second, .val (.int (own_cnt S qd qb)), .val (.int ((own_obs S qd) + (1 : Int32))), .unset, .unset] [(.int (own_bid_f0 r2))])) _
        refine XS.iload X3.here hx rfl (hb hby at_159) rfl ?_
        show Steps p.tables e below (T3.setTop (mkF m 161 #[.val (.int cc), .val (.long r1), .second, .val (.long r2), .second, .val (.long r3), .second, .val (.int k), .val (.int qb), .val (.int qd), .val (.ref a), .val (.double (own_sum S qd qb)), .second, .val (.double (FP.dadd (own_tot S qd) (own_val r2))), .second, .val (.int (own_cnt S qd qb)), .val (.int ((own_obs S qd) + (1 : Int32))), .unset, .unset] [(.int qb), (.int (own_bid_f0 r2))])) _
        refine XS.icmpNo X3.here hx rfl (hb hby at_161) rfl (teq hp).2 ?_
        show Steps p.tables e below (T3.setTop (mkF m 164 #[.val (.int cc), .val (.long r1), .second, .val (.long r2), .second, .val (.long r3), .second, .val (.int k), .val (.int qb), .val (.int qd), .val (.ref a), .val (.double (own_sum S qd qb)), .second, .val (.double (FP.dadd (own_tot S qd) (own_val r2))), .second, .val (.int (own_cnt S qd qb)), .val (.int ((own_obs S qd) + (1 : Int32))), .unset, .unset] [])) _
        refine XS.dload X3.here hx rfl (hb hby at_164) rfl ?_
        show Steps p.tables e below (T3.setTop (mkF m 166 #[.val (.int cc), .val (.long r1), .second, .val (.long r2), .second, .val (.long r3), .second, .val (.int k), .val (.int qb), .val (.int qd), .val (.ref a), .val (.double (own_sum S qd qb)), .second, .val (.double (FP.dadd (own_tot S qd) (own_val r2))), .second, .val (.int (own_cnt S qd qb)), .val (.int ((own_obs S qd) + (1 : Int32))), .unset, .unset] [(.double (own_sum S qd qb))])) _
        refine XS.lloadN X3.here hx rfl (hb hby at_166) rfl ?_
        show Steps p.tables e below (T3.setTop (mkF m 167 #[.val (.int cc), .val (.long r1), .second, .val (.long r2), .second, .val (.long r3), .second, .val (.int k), .val (.int qb), .val (.int qd), .val (.ref a), .val (.double (own_sum S qd qb)), .second, .val (.double (FP.dadd (own_tot S qd) (own_val r2))), .second, .val (.int (own_cnt S qd qb)), .val (.int ((own_obs S qd) + (1 : Int32))), .unset, .unset] [(.long r2), (.double (own_sum S qd qb))])) _
        refine st4 _ ?_
        show Steps p.tables e below (T4.setTop (mkF m 170 #[.val (.int cc), .val (.long r1), .second, .val (.long r2), .second, .val (.long r3), .second, .val (.int k), .val (.int qb), .val (.int qd), .val (.ref a), .val (.double (own_sum S qd qb)), .second, .val (.double (FP.dadd (own_tot S qd) (own_val r2))), .second, .val (.int (own_cnt S qd qb)), .val (.int ((own_obs S qd) + (1 : Int32))), .unset, .unset] [(.double (own_val r2)), (.double (own_sum S qd qb))])) _
        refine XS.daddS X4.here hx rfl (hb hby at_170) rfl (own_add_nn (own_sum_mag hS qd qb) (own_val_mag r2)) rfl ?_
        show Steps p.tables e below (T4.setTop (mkF m 171 #[.val (.int cc), .val (.long r1), .second, .val (.long r2), .second, .val (.long r3), .second, .val (.int k), .val (.int qb), .val (.int qd), .val (.ref a), .val (.double (own_sum S qd qb)), .second, .val (.double (FP.dadd (own_tot S qd) (own_val r2))), .second, .val (.int (own_cnt S qd qb)), .val (.int ((own_obs S qd) + (1 : Int32))), .unset, .unset] [(.double (FP.dadd (own_sum S qd qb) (own_val r2)))])) _
        refine XS.dstore X4.here hx rfl (hb hby at_171) rfl (l' := #[.val (.int cc), .val (.long r1), .second, .val (.long r2), .second, .val (.long r3), .second, .val (.int k), .val (.int qb), .val (.int qd), .val (.ref a), .val (.double (FP.dadd (own_sum S qd qb) (own_val r2))), .second, .val (.double (FP.dadd (own_tot S qd) (own_val r2))), .second, .val (.int (own_cnt S qd qb)), .val (.int ((own_obs S qd) + (1 : Int32))), .unset, .unset]) rfl ?_
        show Steps p.tables e below (T4.setTop (mkF m 173 #[.val (.int cc), .val (.long r1), .second, .val (.long r2), .second, .val (.long r3), .second, .val (.int k), .val (.int qb), .val (.int qd), .val (.ref a), .val (.double (FP.dadd (own_sum S qd qb) (own_val r2))), .second, .val (.double (FP.dadd (own_tot S qd) (own_val r2))), .second, .val (.int (own_cnt S qd qb)), .val (.int ((own_obs S qd) + (1 : Int32))), .unset, .unset] [])) _
        refine XS.iinc X4.here hx rfl (hb hby at_173) rfl (l' := #[.val (.int cc), .val (.long r1), .second, .val (.long r2), .second, .val (.long r3), .second, .val (.int k), .val (.int qb), .val (.int qd), .val (.ref a), .val (.double (FP.dadd (own_sum S qd qb) (own_val r2))), .second, .val (.double (FP.dadd (own_tot S qd) (own_val r2))), .second, .val (.int ((own_cnt S qd qb) + (1 : Int32))), .val (.int ((own_obs S qd) + (1 : Int32))), .unset, .unset]) rfl ?_
        exact kt
      · have enx : (own_nx k 2 S r2) = S ++ [(own_bid_f0 r2, own_dir_f0 r2, own_val r2)] := by unfold own_nx; rw [if_neg h]; rfl
        have t1 : own_tot (own_nx k 2 S r2) qd = FP.dadd (own_tot S qd) (own_val r2) := by rw [enx, own_tot_s, if_pos hq]
        have t2 : own_obs (own_nx k 2 S r2) qd = own_obs S qd + 1 := by rw [enx, own_obs_s, if_pos hq]
        have t3 : own_sum (own_nx k 2 S r2) qd qb = own_sum S qd qb := by rw [enx, own_sum_s, if_neg (fun q => hp q.2)]
        have t4 : own_cnt (own_nx k 2 S r2) qd qb = own_cnt S qd qb := by rw [enx, own_cnt_s, if_neg (fun q => hp q.2)]
        refine ⟨T3, _, X3, e3, N3, fun target kt => ?_⟩
        rw [t1, t2, t3, t4] at kt
        show Steps p.tables e below (T0.setTop (mkF m 128 #[.val (.int cc), .val (.long r1), .second, .val (.long r2), .second, .val (.long r3), .second, .val (.int k), .val (.int qb), .val (.int qd), .val (.ref a), .val (.double (own_sum S qd qb)), .second, .val (.double (own_tot S qd)), .second, .val (.int (own_cnt S qd qb)), .val (.int (own_obs S qd)), .unset, .unset] [])) _
        refine XS.iload X0.here hx rfl (hb hby at_128) rfl ?_
        show Steps p.tables e below (T0.setTop (mkF m 130 #[.val (.int cc), .val (.long r1), .second, .val (.long r2), .second, .val (.long r3), .second, .val (.int k), .val (.int qb), .val (.int qd), .val (.ref a), .val (.double (own_sum S qd qb)), .second, .val (.double (own_tot S qd)), .second, .val (.int (own_cnt S qd qb)), .val (.int (own_obs S qd)), .unset, .unset] [(.int k)])) _
        refine XS.iconst X0.here hx rfl (hb hby at_130) ?_
        show Steps p.tables e below (T0.setTop (mkF m 131 #[.val (.int cc), .val (.long r1), .second, .val (.long r2), .second, .val (.long r3), .second, .val (.int k), .val (.int qb), .val (.int qd), .val (.ref a), .val (.double (own_sum S qd qb)), .second, .val (.double (own_tot S qd)), .second, .val (.int (own_cnt S qd qb)), .val (.int (own_obs S qd)), .unset, .unset] [(.int (2 : Int32)), (.int k)])) _
        refine XS.icmpNo X0.here hx rfl (hb hby at_131) rfl (flt h).1 ?_
        show Steps p.tables e below (T0.setTop (mkF m 134 #[.val (.int cc), .val (.long r1), .second, .val (.long r2), .second, .val (.long r3), .second, .val (.int k), .val (.int qb), .val (.int qd), .val (.ref a), .val (.double (own_sum S qd qb)), .second, .val (.double (own_tot S qd)), .second, .val (.int (own_cnt S qd qb)), .val (.int (own_obs S qd)), .unset, .unset] [])) _
        refine XS.lloadN X0.here hx rfl (hb hby at_134) rfl ?_
        show Steps p.tables e below (T0.setTop (mkF m 135 #[.val (.int cc), .val (.long r1), .second, .val (.long r2), .second, .val (.long r3), .second, .val (.int k), .val (.int qb), .val (.int qd), .val (.ref a), .val (.double (own_sum S qd qb)), .second, .val (.double (own_tot S qd)), .second, .val (.int (own_cnt S qd qb)), .val (.int (own_obs S qd)), .unset, .unset] [(.long r2)])) _
        refine st1 _ ?_
        show Steps p.tables e below (T1.setTop (mkF m 138 #[.val (.int cc), .val (.long r1), .second, .val (.long r2), .second, .val (.long r3), .second, .val (.int k), .val (.int qb), .val (.int qd), .val (.ref a), .val (.double (own_sum S qd qb)), .second, .val (.double (own_tot S qd)), .second, .val (.int (own_cnt S qd qb)), .val (.int (own_obs S qd)), .unset, .unset] [(.int (own_dir_f0 r2))])) _
        refine XS.iload X1.here hx rfl (hb hby at_138) rfl ?_
        show Steps p.tables e below (T1.setTop (mkF m 140 #[.val (.int cc), .val (.long r1), .second, .val (.long r2), .second, .val (.long r3), .second, .val (.int k), .val (.int qb), .val (.int qd), .val (.ref a), .val (.double (own_sum S qd qb)), .second, .val (.double (own_tot S qd)), .second, .val (.int (own_cnt S qd qb)), .val (.int (own_obs S qd)), .unset, .unset] [(.int qd), (.int (own_dir_f0 r2))])) _
        refine XS.icmpNo X1.here hx rfl (hb hby at_140) rfl (teq hq).2 ?_
        show Steps p.tables e below (T1.setTop (mkF m 143 #[.val (.int cc), .val (.long r1), .second, .val (.long r2), .second, .val (.long r3), .second, .val (.int k), .val (.int qb), .val (.int qd), .val (.ref a), .val (.double (own_sum S qd qb)), .second, .val (.double (own_tot S qd)), .second, .val (.int (own_cnt S qd qb)), .val (.int (own_obs S qd)), .unset, .unset] [])) _
        refine XS.dload X1.here hx rfl (hb hby at_143) rfl ?_
        show Steps p.tables e below (T1.setTop (mkF m 145 #[.val (.int cc), .val (.long r1), .second, .val (.long r2), .second, .val (.long r3), .second, .val (.int k), .val (.int qb), .val (.int qd), .val (.ref a), .val (.double (own_sum S qd qb)), .second, .val (.double (own_tot S qd)), .second, .val (.int (own_cnt S qd qb)), .val (.int (own_obs S qd)), .unset, .unset] [(.double (own_tot S qd))])) _
        refine XS.lloadN X1.here hx rfl (hb hby at_145) rfl ?_
        show Steps p.tables e below (T1.setTop (mkF m 146 #[.val (.int cc), .val (.long r1), .second, .val (.long r2), .second, .val (.long r3), .second, .val (.int k), .val (.int qb), .val (.int qd), .val (.ref a), .val (.double (own_sum S qd qb)), .second, .val (.double (own_tot S qd)), .second, .val (.int (own_cnt S qd qb)), .val (.int (own_obs S qd)), .unset, .unset] [(.long r2), (.double (own_tot S qd))])) _
        refine st2 _ ?_
        show Steps p.tables e below (T2.setTop (mkF m 149 #[.val (.int cc), .val (.long r1), .second, .val (.long r2), .second, .val (.long r3), .second, .val (.int k), .val (.int qb), .val (.int qd), .val (.ref a), .val (.double (own_sum S qd qb)), .second, .val (.double (own_tot S qd)), .second, .val (.int (own_cnt S qd qb)), .val (.int (own_obs S qd)), .unset, .unset] [(.double (own_val r2)), (.double (own_tot S qd))])) _
        refine XS.daddS X2.here hx rfl (hb hby at_149) rfl (own_add_nn (own_tot_mag hS qd) (own_val_mag r2)) rfl ?_
        show Steps p.tables e below (T2.setTop (mkF m 150 #[.val (.int cc), .val (.long r1), .second, .val (.long r2), .second, .val (.long r3), .second, .val (.int k), .val (.int qb), .val (.int qd), .val (.ref a), .val (.double (own_sum S qd qb)), .second, .val (.double (own_tot S qd)), .second, .val (.int (own_cnt S qd qb)), .val (.int (own_obs S qd)), .unset, .unset] [(.double (FP.dadd (own_tot S qd) (own_val r2)))])) _
        refine XS.dstore X2.here hx rfl (hb hby at_150) rfl (l' := #[.val (.int cc), .val (.long r1), .second, .val (.long r2), .second, .val (.long r3), .second, .val (.int k), .val (.int qb), .val (.int qd), .val (.ref a), .val (.double (own_sum S qd qb)), .second, .val (.double (FP.dadd (own_tot S qd) (own_val r2))), .second, .val (.int (own_cnt S qd qb)), .val (.int (own_obs S qd)), .unset, .unset]) rfl ?_
        show Steps p.tables e below (T2.setTop (mkF m 152 #[.val (.int cc), .val (.long r1), .second, .val (.long r2), .second, .val (.long r3), .second, .val (.int k), .val (.int qb), .val (.int qd), .val (.ref a), .val (.double (own_sum S qd qb)), .second, .val (.double (FP.dadd (own_tot S qd) (own_val r2))), .second, .val (.int (own_cnt S qd qb)), .val (.int (own_obs S qd)), .unset, .unset] [])) _
        refine XS.iinc X2.here hx rfl (hb hby at_152) rfl (l' := #[.val (.int cc), .val (.long r1), .second, .val (.long r2), .second, .val (.long r3), .second, .val (.int k), .val (.int qb), .val (.int qd), .val (.ref a), .val (.double (own_sum S qd qb)), .second, .val (.double (FP.dadd (own_tot S qd) (own_val r2))), .second, .val (.int (own_cnt S qd qb)), .val (.int ((own_obs S qd) + (1 : Int32))), .unset, .unset]) rfl ?_
        show Steps p.tables e below (T2.setTop (mkF m 155 #[.val (.int cc), .val (.long r1), .second, .val (.long r2), .second, .val (.long r3), .second, .val (.int k), .val (.int qb), .val (.int qd), .val (.ref a), .val (.double (own_sum S qd qb)), .second, .val (.double (FP.dadd (own_tot S qd) (own_val r2))), .second, .val (.int (own_cnt S qd qb)), .val (.int ((own_obs S qd) + (1 : Int32))), .unset, .unset] [])) _
        refine XS.lloadN X2.here hx rfl (hb hby at_155) rfl ?_
        show Steps p.tables e below (T2.setTop (mkF m 156 #[.val (.int cc), .val (.long r1), .second, .val (.long r2), .second, .val (.long r3), .second, .val (.int k), .val (.int qb), .val (.int qd), .val (.ref a), .val (.double (own_sum S qd qb)), .second, .val (.double (FP.dadd (own_tot S qd) (own_val r2))), .second, .val (.int (own_cnt S qd qb)), .val (.int ((own_obs S qd) + (1 : Int32))), .unset, .unset] [(.long r2)])) _
        refine st3 _ ?_
        show Steps p.tables e below (T3.setTop (mkF m 159 #[.val (.int cc), .val (.long r1), .second, .val (.long r2), .second, .val (.long r3), .second, .val (.int k), .val (.int qb), .val (.int qd), .val (.ref a), .val (.double (own_sum S qd qb)), .second, .val (.double (FP.dadd (own_tot S qd) (own_val r2))), .second, .val (.int (own_cnt S qd qb)), .val (.int ((own_obs S qd) + (1 : Int32))), .unset, .unset] [(.int (own_bid_f0 r2))])) _
        refine XS.iload X3.here hx rfl (hb hby at_159) rfl ?_
        show Steps p.tables e below (T3.setTop (mkF m 161 #[.val (.int cc), .val (.long r1), .second, .val (.long r2), .second, .val (.long r3), .second, .val (.int k), .val (.int qb), .val (.int qd), .val (.ref a), .val (.double (own_sum S qd qb)), .second, .val (.double (FP.dadd (own_tot S qd) (own_val r2))), .second, .val (.int (own_cnt S qd qb)), .val (.int ((own_obs S qd) + (1 : Int32))), .unset, .unset] [(.int qb), (.int (own_bid_f0 r2))])) _
        refine XS.icmpYes X3.here hx rfl (pc0 := 161) (pc' := 176) rfl (hb hby at_161) rfl (feq hp).2 (by decide) (by decide) ?_
        exact kt
    · have enx : (own_nx k 2 S r2) = S ++ [(own_bid_f0 r2, own_dir_f0 r2, own_val r2)] := by unfold own_nx; rw [if_neg h]; rfl
      have t1 : own_tot (own_nx k 2 S r2) qd = own_tot S qd := by rw [enx, own_tot_s, if_neg hq]
      have t2 : own_obs (own_nx k 2 S r2) qd = own_obs S qd := by rw [enx, own_obs_s, if_neg hq]
      have t3 : own_sum (own_nx k 2 S r2) qd qb = own_sum S qd qb := by rw [enx, own_sum_s, if_neg (fun q => hq q.1)]
      have t4 : own_cnt (own_nx k 2 S r2) qd qb = own_cnt S qd qb := by rw [enx, own_cnt_s, if_neg (fun q => hq q.1)]
      refine ⟨T1, _, X1, e1, N1, fun target kt => ?_⟩
      rw [t1, t2, t3, t4] at kt
      show Steps p.tables e below (T0.setTop (mkF m 128 #[.val (.int cc), .val (.long r1), .second, .val (.long r2), .second, .val (.long r3), .second, .val (.int k), .val (.int qb), .val (.int qd), .val (.ref a), .val (.double (own_sum S qd qb)), .second, .val (.double (own_tot S qd)), .second, .val (.int (own_cnt S qd qb)), .val (.int (own_obs S qd)), .unset, .unset] [])) _
      refine XS.iload X0.here hx rfl (hb hby at_128) rfl ?_
      show Steps p.tables e below (T0.setTop (mkF m 130 #[.val (.int cc), .val (.long r1), .second, .val (.long r2), .second, .val (.long r3), .second, .val (.int k), .val (.int qb), .val (.int qd), .val (.ref a), .val (.double (own_sum S qd qb)), .second, .val (.double (own_tot S qd)), .second, .val (.int (own_cnt S qd qb)), .val (.int (own_obs S qd)), .unset, .unset] [(.int k)])) _
      refine XS.iconst X0.here hx rfl (hb hby at_130) ?_
      show Steps p.tables e below (T0.setTop (mkF m 131 #[.val (.int cc), .val (.long r1), .second, .val (.long r2), .second, .val (.long r3), .second, .val (.int k), .val (.int qb), .val (.int qd), .val (.ref a), .val (.double (own_sum S qd qb)), .second, .val (.double (own_tot S qd)), .second, .val (.int (own_cnt S qd qb)), .val (.int (own_obs S qd)), .unset, .unset] [(.int (2 : Int32)), (.int k)])) _
      refine XS.icmpNo X0.here hx rfl (hb hby at_131) rfl (flt h).1 ?_
      show Steps p.tables e below (T0.setTop (mkF m 134 #[.val (.int cc), .val (.long r1), .second, .val (.long r2), .second, .val (.long r3), .second, .val (.int k), .val (.int qb), .val (.int qd), .val (.ref a), .val (.double (own_sum S qd qb)), .second, .val (.double (own_tot S qd)), .second, .val (.int (own_cnt S qd qb)), .val (.int (own_obs S qd)), .unset, .unset] [])) _
      refine XS.lloadN X0.here hx rfl (hb hby at_134) rfl ?_
      show Steps p.tables e below (T0.setTop (mkF m 135 #[.val (.int cc), .val (.long r1), .second, .val (.long r2), .second, .val (.long r3), .second, .val (.int k), .val (.int qb), .val (.int qd), .val (.ref a), .val (.double (own_sum S qd qb)), .second, .val (.double (own_tot S qd)), .second, .val (.int (own_cnt S qd qb)), .val (.int (own_obs S qd)), .unset, .unset] [(.long r2)])) _
      refine st1 _ ?_
      show Steps p.tables e below (T1.setTop (mkF m 138 #[.val (.int cc), .val (.long r1), .second, .val (.long r2), .second, .val (.long r3), .second, .val (.int k), .val (.int qb), .val (.int qd), .val (.ref a), .val (.double (own_sum S qd qb)), .second, .val (.double (own_tot S qd)), .second, .val (.int (own_cnt S qd qb)), .val (.int (own_obs S qd)), .unset, .unset] [(.int (own_dir_f0 r2))])) _
      refine XS.iload X1.here hx rfl (hb hby at_138) rfl ?_
      show Steps p.tables e below (T1.setTop (mkF m 140 #[.val (.int cc), .val (.long r1), .second, .val (.long r2), .second, .val (.long r3), .second, .val (.int k), .val (.int qb), .val (.int qd), .val (.ref a), .val (.double (own_sum S qd qb)), .second, .val (.double (own_tot S qd)), .second, .val (.int (own_cnt S qd qb)), .val (.int (own_obs S qd)), .unset, .unset] [(.int qd), (.int (own_dir_f0 r2))])) _
      refine XS.icmpYes X1.here hx rfl (pc0 := 140) (pc' := 176) rfl (hb hby at_140) rfl (feq hq).2 (by decide) (by decide) ?_
      exact kt
set_option maxRecDepth 65536 in
set_option maxHeartbeats 40000000 in
theorem own_ac3 {p : Program} {l : Launch} {e : Env} {s : State} {m : MethodId} {args : Array Value} {below : List Frame} {meth : Method} {c : Code} {T0 : State} {locs : List Loc} {Z : State} {a0 : Array Value} {h0 : Heap} (cc : Int32) (r1 r2 r3 : Int64) (k qb qd : Int32) (a : Nat) (S : List (Int32 × Int32 × UInt64))
    (X0 : Stand p l e room_1 s m args below meth c T0 locs (0 + 1 + 8) (0 + 4 + 20)) (hx : p.tables.exec = Jvm.exec) (hZ : Z.Warmed39 s.vm) (hw : ∀ d ∈ tables_1, d.before a0 Z = true) (hby : c.code = code) (hml : c.maxLocals = 19) (hown : s.vm.findClass "com/example/bundlewright/bundlewright/PseudocostsPerUnitPinLaw" = some m.cls) (e0 : T0.heap = h0) (n0 : Nat) (Z0 : n0 ≤ h0.size) (N : Fr n0 locs) (hS : own_small S) :
    ∃ (T' : State) (L' : List Loc), Stand p l e room_1 s m args below meth c T' L' (0 + 1 + 8) (0 + 4 + 20) ∧ T'.heap = h0 ∧ Fr n0 L' ∧
      ∀ target, Steps p.tables e below (T'.setTop (mkF m 228 #[.val (.int cc), .val (.long r1), .second, .val (.long r2), .second, .val (.long r3), .second, .val (.int k), .val (.int qb), .val (.int qd), .val (.ref a), .val (.double (own_sum (own_nx k 3 S r3) qd qb)), .second, .val (.double (own_tot (own_nx k 3 S r3) qd)), .second, .val (.int (own_cnt (own_nx k 3 S r3) qd qb)), .val (.int (own_obs (own_nx k 3 S r3) qd)), .unset, .unset] [])) target → Steps p.tables e below (T0.setTop (mkF m 176 #[.val (.int cc), .val (.long r1), .second, .val (.long r2), .second, .val (.long r3), .second, .val (.int k), .val (.int qb), .val (.int qd), .val (.ref a), .val (.double (own_sum S qd qb)), .second, .val (.double (own_tot S qd)), .second, .val (.int (own_cnt S qd qb)), .val (.int (own_obs S qd)), .unset, .unset] [])) target := by
  by_cases h : k < (3 : Int32)
  · have enx : (own_nx k 3 S r3) = S := by unfold own_nx; rw [if_pos h]
    refine ⟨T0, locs, X0, e0, N, fun target kt => ?_⟩
    rw [enx] at kt
    show Steps p.tables e below (T0.setTop (mkF m 176 #[.val (.int cc), .val (.long r1), .second, .val (.long r2), .second, .val (.long r3), .second, .val (.int k), .val (.int qb), .val (.int qd), .val (.ref a), .val (.double (own_sum S qd qb)), .second, .val (.double (own_tot S qd)), .second, .val (.int (own_cnt S qd qb)), .val (.int (own_obs S qd)), .unset, .unset] [])) _
    refine XS.iload X0.here hx rfl (hb hby at_176) rfl ?_
    show Steps p.tables e below (T0.setTop (mkF m 178 #[.val (.int cc), .val (.long r1), .second, .val (.long r2), .second, .val (.long r3), .second, .val (.int k), .val (.int qb), .val (.int qd), .val (.ref a), .val (.double (own_sum S qd qb)), .second, .val (.double (own_tot S qd)), .second, .val (.int (own_cnt S qd qb)), .val (.int (own_obs S qd)), .unset, .unset] [(.int k)])) _
    refine XS.iconst X0.here hx rfl (hb hby at_178) ?_
    show Steps p.tables e below (T0.setTop (mkF m 179 #[.val (.int cc), .val (.long r1), .second, .val (.long r2), .second, .val (.long r3), .second, .val (.int k), .val (.int qb), .val (.int qd), .val (.ref a), .val (.double (own_sum S qd qb)), .second, .val (.double (own_tot S qd)), .second, .val (.int (own_cnt S qd qb)), .val (.int (own_obs S qd)), .unset, .unset] [(.int (3 : Int32)), (.int k)])) _
    refine XS.icmpYes X0.here hx rfl (pc0 := 179) (pc' := 228) rfl (hb hby at_179) rfl (tlt h).1 (by decide) (by decide) ?_
    exact kt
  · obtain ⟨_, _, ⟨T1, L1, k1, n1⟩, -, X1, ⟨Lc1, hQ1, l1, y1, z1⟩, st1⟩ := Jvm.LawKit.callS X0 hx (y := (⟨"com/example/bundlewright/bundlewright/PseudocostsPerUnitPinLaw", "dir", "(J)I"⟩ : MethodName)) hown (mvT hZ (hw _ (List.mem_of_getElem? (i := 36) rfl))) (mvT hZ (hw _ (List.mem_of_getElem? (i := 37) rfl))) (mvT hZ (hw _ (List.mem_of_getElem? (i := 30) rfl))) (mvT hZ (hw _ (List.mem_of_getElem? (i := 38) rfl))) (by decide) (backOf (W := 0) (rm3 l Z a0 hw [] r3 h0 n0 Z0) hZ (hw _ (List.mem_of_getElem? (i := 38) rfl)) (hw _ (List.mem_of_getElem? (i := 30) rfl)) (by decide) (by decide)) (g := (mkF m 184 #[.val (.int cc), .val (.long r1), .second, .val (.long r2), .second, .val (.long r3), .second, .val (.int k), .val (.int qb), .val (.int qd), .val (.ref a), .val (.double (own_sum S qd qb)), .second, .val (.double (own_tot S qd)), .second, .val (.int (own_cnt S qd qb)), .val (.int (own_obs S qd)), .unset, .unset] [(.long r3)])) rfl (by rw [hml]; rfl) (argsL := [(.long r3)]) (rest := []) (lenOf (show parseMethodDescriptor "(J)I" = some ⟨[.long], (some .int)⟩ from by decide +kernel) rfl) rfl (by show 2 * 0 + _ ≤ _; exact Nat.le_of_eq rfl) (hb hby at_184) (fun _ _ => ⟨rfl, e0, (by decide : 0 + 1 + 8 + 0 ≤ _), (by decide : 0 + 4 + 20 + 0 ≤ _)⟩)
    dsimp only [Pt.U, Pt.locs, Pt.cells, Pt.slots] at X1 l1 y1 z1 st1 hQ1
    subst l1 y1 z1
    obtain ⟨rfl, N1q, e1⟩ := hQ1
    have N1 := Fr.app N N1q
    by_cases hq : own_dir_f0 r3 = qd
    · obtain ⟨_, _, ⟨T2, L2, k2, n2⟩, -, X2, ⟨Lc2, hQ2, l2, y2, z2⟩, st2⟩ := Jvm.LawKit.callS X1 hx (y := (⟨"com/example/bundlewright/bundlewright/PseudocostsPerUnitPinLaw", "val", "(J)D"⟩ : MethodName)) hown (mvT hZ (hw _ (List.mem_of_getElem? (i := 54) rfl))) (mvT hZ (hw _ (List.mem_of_getElem? (i := 55) rfl))) (mvT hZ (hw _ (List.mem_of_getElem? (i := 30) rfl))) (mvT hZ (hw _ (List.mem_of_getElem? (i := 56) rfl))) (by decide) (backOf (W := 2) (rm6 l Z a0 hw [] r3 h0 n0 Z0) hZ (hw _ (List.mem_of_getElem? (i := 56) rfl)) (hw _ (List.mem_of_getElem? (i := 30) rfl)) (by decide) (by decide)) (g := (mkF m 196 #[.val (.int cc), .val (.long r1), .second, .val (.long r2), .second, .val (.long r3), .second, .val (.int k), .val (.int qb), .val (.int qd), .val (.ref a), .val (.double (own_sum S qd qb)), .second, .val (.double (own_tot S qd)), .second, .val (.int (own_cnt S qd qb)), .val (.int (own_obs S qd)), .unset, .unset] [(.long r3), (.double (own_tot S qd))])) rfl (by rw [hml]; rfl) (argsL := [(.long r3)]) (rest := [(.double (own_tot S qd))]) (lenOf (show parseMethodDescriptor "(J)D" = some ⟨[.long], (some .double)⟩ from by decide +kernel) rfl) rfl (by show 2 * 0 + _ ≤ _; exact Nat.le_of_eq rfl) (hb hby at_196) (fun _ _ => ⟨rfl, e1, (by decide : 0 + 1 + 8 + 0 ≤ _), (by decide : 0 + 4 + 20 + 0 ≤ _)⟩)
      dsimp only [Pt.U, Pt.locs, Pt.cells, Pt.slots] at X2 l2 y2 z2 st2 hQ2
      subst l2 y2 z2
      obtain ⟨rfl, N2q, e2⟩ := hQ2
      have N2 := Fr.app N1 N2q
      obtain ⟨_, _, ⟨T3, L3, k3, n3⟩, -, X3, ⟨Lc3, hQ3, l3, y3, z3⟩, st3⟩ := Jvm.LawKit.callS X2 hx (y := (⟨"com/example/bundlewright/bundlewright/PseudocostsPerUnitPinLaw", "bid", "(J)I"⟩ : MethodName)) hown (mvT hZ (hw _ (List.mem_of_getElem? (i := 32) rfl))) (mvT hZ (hw _ (List.mem_of_getElem? (i := 33) rfl))) (mvT hZ (hw _ (List.mem_of_getElem? (i := 30) rfl))) (mvT hZ (hw _ (List.mem_of_getElem? (i := 34) rfl))) (by decide) (backOf (W := 0) (rm2 l Z a0 hw [] r3 h0 n0 Z0) hZ (hw _ (List.mem_of_getElem? (i := 34) rfl)) (hw _ (List.mem_of_getElem? (i := 30) rfl)) (by decide) (by decide)) (g := (mkF m 207 #[.val (.int cc), .val (.long r1), .second, .val (.long r2), .second, .val (.long r3), .second, .val (.int k), .val (.int qb), .val (.int qd), .val (.ref a), .val (.double (own_sum S qd qb)), .second, .val (.double (FP.dadd (own_tot S qd) (own_val r3))), .second, .val (.int (own_cnt S qd qb)), .val (.int ((own_obs S qd) + (1 : Int32))), .unset, .unset] [(.long r3)])) rfl (by rw [hml]; rfl) (argsL := [(.long r3)]) (rest := []) (lenOf (show parseMethodDescriptor "(J)I" = some ⟨[.long], (some .int)⟩ from by decide +kernel) rfl) rfl (by show 2 * 0 + _ ≤ _; exact Nat.le_of_eq rfl) (hb hby at_207) (fun _ _ => ⟨rfl, e2, (by decide : 0 + 1 + 8 + 0 ≤ _), (by decide : 0 + 4 + 20 + 0 ≤ _)⟩)
      dsimp only [Pt.U, Pt.locs, Pt.cells, Pt.slots] at X3 l3 y3 z3 st3 hQ3
      subst l3 y3 z3
      obtain ⟨rfl, N3q, e3⟩ := hQ3
      have N3 := Fr.app N2 N3q
      by_cases hp : own_bid_f0 r3 = qb
      · obtain ⟨_, _, ⟨T4, L4, k4, n4⟩, -, X4, ⟨Lc4, hQ4, l4, y4, z4⟩, st4⟩ := Jvm.LawKit.callS X3 hx (y := (⟨"com/example/bundlewright/bundlewright/PseudocostsPerUnitPinLaw", "val", "(J)D"⟩ : MethodName)) hown (mvT hZ (hw _ (List.mem_of_getElem? (i := 54) rfl))) (mvT hZ (hw _ (List.mem_of_getElem? (i := 55) rfl))) (mvT hZ (hw _ (List.mem_of_getElem? (i := 30) rfl))) (mvT hZ (hw _ (List.mem_of_getElem? (i := 56) rfl))) (by decide) (backOf (W := 2) (rm6 l Z a0 hw [] r3 h0 n0 Z0) hZ (hw _ (List.mem_of_getElem? (i := 56) rfl)) (hw _ (List.mem_of_getElem? (i := 30) rfl)) (by decide) (by decide)) (g := (mkF m 219 #[.val (.int cc), .val (.long r1), .second, .val (.long r2), .second, .val (.long r3), .second, .val (.int k), .val (.int qb), .val (.int qd), .val (.ref a), .val (.double (own_sum S qd qb)), .second, .val (.double (FP.dadd (own_tot S qd) (own_val r3))), .second, .val (.int (own_cnt S qd qb)), .val (.int ((own_obs S qd) + (1 : Int32))), .unset, .unset] [(.long r3), (.double (own_sum S qd qb))])) rfl (by rw [hml]; rfl) (argsL := [(.long r3)]) (rest := [(.double (own_sum S qd qb))]) (lenOf (show parseMethodDescriptor "(J)D" = some ⟨[.long], (some .double)⟩ from by decide +kernel) rfl) rfl (by show 2 * 0 + _ ≤ _; exact Nat.le_of_eq rfl) (hb hby at_219) (fun _ _ => ⟨rfl, e3, (by decide : 0 + 1 + 8 + 0 ≤ _), (by decide : 0 + 4 + 20 + 0 ≤ _)⟩)
        dsimp only [Pt.U, Pt.locs, Pt.cells, Pt.slots] at X4 l4 y4 z4 st4 hQ4
        subst l4 y4 z4
        obtain ⟨rfl, N4q, e4⟩ := hQ4
        have N4 := Fr.app N3 N4q
        have enx : (own_nx k 3 S r3) = S ++ [(own_bid_f0 r3, own_dir_f0 r3, own_val r3)] := by unfold own_nx; rw [if_neg h]; rfl
        have t1 : own_tot (own_nx k 3 S r3) qd = FP.dadd (own_tot S qd) (own_val r3) := by rw [enx, own_tot_s, if_pos hq]
        have t2 : own_obs (own_nx k 3 S r3) qd = own_obs S qd + 1 := by rw [enx, own_obs_s, if_pos hq]
        have t3 : own_sum (own_nx k 3 S r3) qd qb = FP.dadd (own_sum S qd qb) (own_val r3) := by rw [enx, own_sum_s, if_pos ⟨hq, hp⟩]
        have t4 : own_cnt (own_nx k 3 S r3) qd qb = own_cnt S qd qb + 1 := by rw [enx, own_cnt_s, if_pos ⟨hq, hp⟩]
        refine ⟨T4, _, X4, e4, N4, fun target kt => ?_⟩
        rw [t1, t2, t3, t4] at kt
        show Steps p.tables e below (T0.setTop (mkF m 176 #[.val (.int cc), .val (.long r1), .second, .val (.long r2), .second, .val (.long r3), .second, .val (.int k), .val (.int qb), .val (.int qd), .val (.ref a), .val (.double (own_sum S qd qb)), .second, .val (.double (own_tot S qd)), .second, .val (.int (own_cnt S qd qb)), .val (.int (own_obs S qd)), .unset, .unset] [])) _
        refine XS.iload X0.here hx rfl (hb hby at_176) rfl ?_
        show Steps p.tables e below (T0.setTop (mkF m 178 #[.val (.int cc), .val (.long r1), .second, .val (.long r2), .second, .val (.long r3), .second, .val (.int k), .val (.int qb), .val (.int qd), .val (.ref a), .val (.double (own_sum S qd qb)), .second, .val (.double (own_tot S qd)), .second, .val (.int (own_cnt S qd qb)), .val (.int (own_obs S qd)), .unset, .unset] [(.int k)])) _
        refine XS.iconst X0.here hx rfl (hb hby at_178) ?_
        show Steps p.tables e below (T0.setTop (mkF m 179 #[.val (.int cc), .val (.long r1), .second, .val (.long r2), .second, .val (.long r3), .second, .val (.int k), .val (.int qb), .val (.int qd), .val (.ref a), .val (.double (own_sum S qd qb)), .second, .val (.double (own_tot S qd)), .second, .val (.int (own_cnt S qd qb)), .val (.int (own_obs S qd)), .unset, .unset] [(.int (3 : Int32)), (.int k)])) _
        refine XS.icmpNo X0.here hx rfl (hb hby at_179) rfl (flt h).1 ?_
        show Steps p.tables e below (T0.setTop (mkF m 182 #[.val (.int cc), .val (.long r1), .second, .val (.long r2), .second, .val (.long r3), .second, .val (.int k), .val (.int qb), .val (.int qd), .val (.ref a), .val (.double (own_sum S qd qb)), .second, .val (.double (own_tot S qd)), .second, .val (.int (own_cnt S qd qb)), .val (.int (own_obs S qd)), .unset, .unset] [])) _
        refine XS.lload X0.here hx rfl (hb hby at_182) rfl ?_
        show Steps p.tables e below (T0.setTop (mkF m 184 #[.val (.int cc), .val (.long r1), .second, .val (.long r2), .second, .val (.long r3), .second, .val (.int k), .val (.int qb), .val (.int qd), .val (.ref a), .val (.double (own_sum S qd qb)), .second, .val (.double (own_tot S qd)), .second, .val (.int (own_cnt S qd qb)), .val (.int (own_obs S qd)), .unset, .unset] [(.long r3)])) _
        refine st1 _ ?_
        show Steps p.tables e below (T1.setTop (mkF m 187 #[.val (.int cc), .val (.long r1), .second, .val (.long r2), .second, .val (.long r3), .second, .val (.int k), .val (.int qb), .val (.int qd), .val (.ref a), .val (.double (own_sum S qd qb)), .second, .val (.double (own_tot S qd)), .second, .val (.int (own_cnt S qd qb)), .val (.int (own_obs S qd)), .unset, .unset] [(.int (own_dir_f0 r3))])) _
        refine XS.iload X1.here hx rfl (hb hby at_187) rfl ?_
        show Steps p.tables e below (T1.setTop (mkF m 189 #[.val (.int cc), .val (.long r1), .second, .val (.long r2), .second, .val (.long r3), .second, .val (.int k), .val (.int qb), .val (.int qd), .val (.ref a), .val (.double (own_sum S qd qb)), .second, .val (.double (own_tot S qd)), .second, .val (.int (own_cnt S qd qb)), .val (.int (own_obs S qd)), .unset, .unset] [(.int qd), (.int (own_dir_f0 r3))])) _
        refine XS.icmpNo X1.here hx rfl (hb hby at_189) rfl (teq hq).2 ?_
        show Steps p.tables e below (T1.setTop (mkF m 192 #[.val (.int cc), .val (.long r1), .second, .val (.long r2), .second, .val (.long r3), .second, .val (.int k), .val (.int qb), .val (.int qd), .val (.ref a), .val (.double (own_sum S qd qb)), .second, .val (.double (own_tot S qd)), .second, .val (.int (own_cnt S qd qb)), .val (.int (own_obs S qd)), .unset, .unset] [])) _
        refine XS.dload X1.here hx rfl (hb hby at_192) rfl ?_
        show Steps p.tables e below (T1.setTop (mkF m 194 #[.val (.int cc), .val (.long r1), .second, .val (.long r2), .second, .val (.long r3), .second, .val (.int k), .val (.int qb), .val (.int qd), .val (.ref a), .val (.double (own_sum S qd qb)), .second, .val (.double (own_tot S qd)), .second, .val (.int (own_cnt S qd qb)), .val (.int (own_obs S qd)), .unset, .unset] [(.double (own_tot S qd))])) _
        refine XS.lload X1.here hx rfl (hb hby at_194) rfl ?_
        show Steps p.tables e below (T1.setTop (mkF m 196 #[.val (.int cc), .val (.long r1), .second, .val (.long r2), .second, .val (.long r3), .second, .val (.int k), .val (.int qb), .val (.int qd), .val (.ref a), .val (.double (own_sum S qd qb)), .second, .val (.double (own_tot S qd)), .second, .val (.int (own_cnt S qd qb)), .val (.int (own_obs S qd)), .unset, .unset] [(.long r3), (.double (own_tot S qd))])) _
        refine st2 _ ?_
        show Steps p.tables e below (T2.setTop (mkF m 199 #[.val (.int cc), .val (.long r1), .second, .val (.long r2), .second, .val (.long r3), .second, .val (.int k), .val (.int qb), .val (.int qd), .val (.ref a), .val (.double (own_sum S qd qb)), .second, .val (.double (own_tot S qd)), .second, .val (.int (own_cnt S qd qb)), .val (.int (own_obs S qd)), .unset, .unset] [(.double (own_val r3)), (.double (own_tot S qd))])) _
        refine XS.daddS X2.here hx rfl (hb hby at_199) rfl (own_add_nn (own_tot_mag hS qd) (own_val_mag r3)) rfl ?_
        show Steps p.tables e below (T2.setTop (mkF m 200 #[.val (.int cc), .val (.long r1), .second, .val (.long r2), .second, .val (.long r3), .second, .val (.int k), .val (.int qb), .val (.int qd), .val (.ref a), .val (.double (own_sum S qd qb)), .second, .val (.double (own_tot S qd)), .second, .val (.int (own_cnt S qd qb)), .val (.int (own_obs S qd)), .unset, .unset] [(.double (FP.dadd (own_tot S qd) (own_val r3)))])) _
        refine XS.dstore X2.here hx rfl (hb hby at_200) rfl (l' := #[.val (.int cc), .val (.long r1), .second, .val (.long r2), .second, .val (.long r3), .second, .val (.int k), .val (.int qb), .val (.int qd), .val (.ref a), .val (.double (own_sum S qd qb)), .second, .val (.double (FP.dadd (own_tot S qd) (own_val r3))), .second, .val (.int (own_cnt S qd qb)), .val (.int (own_obs S qd)), .unset, .unset]) rfl ?_
        show Steps p.tables e below (T2.setTop (mkF m 202 #[.val (.int cc), .val (.long r1), .second, .val (.long r2), .second, .val (.long r3), .second, .val (.int k), .val (.int qb), .val (.int qd), .val (.ref a), .val (.double (own_sum S qd qb)), .second, .val (.double (FP.dadd (own_tot S qd) (own_val r3))), .second, .val (.int (own_cnt S qd qb)), .val (.int (own_obs S qd)), .unset, .unset] [])) _
        refine XS.iinc X2.here hx rfl (hb hby at_202) rfl (l' := #[.val (.int cc), .val (.long r1), .second, .val (.long r2), .second, .val (.long r3), .second, .val (.int k), .val (.int qb), .val (.int qd), .val (.ref a), .val (.double (own_sum S qd qb)), .second, .val (.double (FP.dadd (own_tot S qd) (own_val r3))), .second, .val (.int (own_cnt S qd qb)), .val (.int ((own_obs S qd) + (1 : Int32))), .unset, .unset]) rfl ?_
        show Steps p.tables e below (T2.setTop (mkF m 205 #[.val (.int cc), .val (.long r1), .second, .val (.long r2), .second, .val (.long r3), .second, .val (.int k), .val (.int qb), .val (.int qd), .val (.ref a), .val (.double (own_sum S qd qb)), .second, .val (.double (FP.dadd (own_tot S qd) (own_val r3))), .second, .val (.int (own_cnt S qd qb)), .val (.int ((own_obs S qd) + (1 : Int32))), .unset, .unset] [])) _
        refine XS.lload X2.here hx rfl (hb hby at_205) rfl ?_
        show Steps p.tables e below (T2.setTop (mkF m 207 #[.val (.int cc), .val (.long r1), .second, .val (.long r2), .second, .val (.long r3), .second, .val (.int k), .val (.int qb), .val (.int qd), .val (.ref a), .val (.double (own_sum S qd qb)), .second, .val (.double (FP.dadd (own_tot S qd) (own_val r3))), .second, .val (.int (own_cnt S qd qb)), .val (.int ((own_obs S qd) + (1 : Int32))), .unset, .unset] [(.long r3)])) _
        refine st3 _ ?_
        show Steps p.tables e below (T3.setTop (mkF m 210 #[.val (.int cc), .val (.long r1), .second, .val (.long r2), .second, .val (.long r3), .second, .val (.int k), .val (.int qb), .val (.int qd), .val (.ref a), .val (.double (own_sum S qd qb)), .second, .val (.double (FP.dadd (own_tot S qd) (own_val r3))), .second, .val (.int (own_cnt S qd qb)), .val (.int ((own_obs S qd) + (1 : Int32))), .unset, .unset] [(.int (own_bid_f0 r3))])) _
        refine XS.iload X3.here hx rfl (hb hby at_210) rfl ?_
        show Steps p.tables e below (T3.setTop (mkF m 212 #[.val (.int cc), .val (.long r1), .second, .val (.long r2), .second, .val (.long r3), .second, .val (.int k), .val (.int qb), .val (.int qd), .val (.ref a), .val (.double (own_sum S qd qb)), .second, .val (.double (FP.dadd (own_tot S qd) (own_val r3))), .second, .val (.int (own_cnt S qd qb)), .val (.int ((own_obs S qd) + (1 : Int32))), .unset, .unset] [(.int qb), (.int (own_bid_f0 r3))])) _
        refine XS.icmpNo X3.here hx rfl (hb hby at_212) rfl (teq hp).2 ?_
        show Steps p.tables e below (T3.setTop (mkF m 215 #[.val (.int cc), .val (.long r1), .second, .val (.long r2), .second, .val (.long r3), .second, .val (.int k), .val (.int qb), .val (.int qd), .val (.ref a), .val (.double (own_sum S qd qb)), .second, .val (.double (FP.dadd (own_tot S qd) (own_val r3))), .second, .val (.int (own_cnt S qd qb)), .val (.int ((own_obs S qd) + (1 : Int32))), .unset, .unset] [])) _
        refine XS.dload X3.here hx rfl (hb hby at_215) rfl ?_
        show Steps p.tables e below (T3.setTop (mkF m 217 #[.val (.int cc), .val (.long r1), .second, .val (.long r2), .second, .val (.long r3), .second, .val (.int k), .val (.int qb), .val (.int qd), .val (.ref a), .val (.double (own_sum S qd qb)), .second, .val (.double (FP.dadd (own_tot S qd) (own_val r3))), .second, .val (.int (own_cnt S qd qb)), .val (.int ((own_obs S qd) + (1 : Int32))), .unset, .unset] [(.double (own_sum S qd qb))])) _
        refine XS.lload X3.here hx rfl (hb hby at_217) rfl ?_
        show Steps p.tables e below (T3.setTop (mkF m 219 #[.val (.int cc), .val (.long r1), .second, .val (.long r2), .second, .val (.long r3), .second, .val (.int k), .val (.int qb), .val (.int qd), .val (.ref a), .val (.double (own_sum S qd qb)), .second, .val (.double (FP.dadd (own_tot S qd) (own_val r3))), .second, .val (.int (own_cnt S qd qb)), .val (.int ((own_obs S qd) + (1 : Int32))), .unset, .unset] [(.long r3), (.double (own_sum S qd qb))])) _
        refine st4 _ ?_
        show Steps p.tables e below (T4.setTop (mkF m 222 #[.val (.int cc), .val (.long r1), .second, .val (.long r2), .second, .val (.long r3), .second, .val (.int k), .val (.int qb), .val (.int qd), .val (.ref a), .val (.double (own_sum S qd qb)), .second, .val (.double (FP.dadd (own_tot S qd) (own_val r3))), .second, .val (.int (own_cnt S qd qb)), .val (.int ((own_obs S qd) + (1 : Int32))), .unset, .unset] [(.double (own_val r3)), (.double (own_sum S qd qb))])) _
        refine XS.daddS X4.here hx rfl (hb hby at_222) rfl (own_add_nn (own_sum_mag hS qd qb) (own_val_mag r3)) rfl ?_
        show Steps p.tables e below (T4.setTop (mkF m 223 #[.val (.int cc), .val (.long r1), .second, .val (.long r2), .second, .val (.long r3), .second, .val (.int k), .val (.int qb), .val (.int qd), .val (.ref a), .val (.double (own_sum S qd qb)), .second, .val (.double (FP.dadd (own_tot S qd) (own_val r3))), .second, .val (.int (own_cnt S qd qb)), .val (.int ((own_obs S qd) + (1 : Int32))), .unset, .unset] [(.double (FP.dadd (own_sum S qd qb) (own_val r3)))])) _
        refine XS.dstore X4.here hx rfl (hb hby at_223) rfl (l' := #[.val (.int cc), .val (.long r1), .second, .val (.long r2), .second, .val (.long r3), .second, .val (.int k), .val (.int qb), .val (.int qd), .val (.ref a), .val (.double (FP.dadd (own_sum S qd qb) (own_val r3))), .second, .val (.double (FP.dadd (own_tot S qd) (own_val r3))), .second, .val (.int (own_cnt S qd qb)), .val (.int ((own_obs S qd) + (1 : Int32))), .unset, .unset]) rfl ?_
        show Steps p.tables e below (T4.setTop (mkF m 225 #[.val (.int cc), .val (.long r1), .second, .val (.long r2), .second, .val (.long r3), .second, .val (.int k), .val (.int qb), .val (.int qd), .val (.ref a), .val (.double (FP.dadd (own_sum S qd qb) (own_val r3))), .second, .val (.double (FP.dadd (own_tot S qd) (own_val r3))), .second, .val (.int (own_cnt S qd qb)), .val (.int ((own_obs S qd) + (1 : Int32))), .unset, .unset] [])) _
        refine XS.iinc X4.here hx rfl (hb hby at_225) rfl (l' := #[.val (.int cc), .val (.long r1), .second, .val (.long r2), .second, .val (.long r3), .second, .val (.int k), .val (.int qb), .val (.int qd), .val (.ref a), .val (.double (FP.dadd (own_sum S qd qb) (own_val r3))), .second, .val (.double (FP.dadd (own_tot S qd) (own_val r3))), .second, .val (.int ((own_cnt S qd qb) + (1 : Int32))), .val (.int ((own_obs S qd) + (1 : Int32))), .unset, .unset]) rfl ?_
        exact kt
      · have enx : (own_nx k 3 S r3) = S ++ [(own_bid_f0 r3, own_dir_f0 r3, own_val r3)] := by unfold own_nx; rw [if_neg h]; rfl
        have t1 : own_tot (own_nx k 3 S r3) qd = FP.dadd (own_tot S qd) (own_val r3) := by rw [enx, own_tot_s, if_pos hq]
        have t2 : own_obs (own_nx k 3 S r3) qd = own_obs S qd + 1 := by rw [enx, own_obs_s, if_pos hq]
        have t3 : own_sum (own_nx k 3 S r3) qd qb = own_sum S qd qb := by rw [enx, own_sum_s, if_neg (fun q => hp q.2)]
        have t4 : own_cnt (own_nx k 3 S r3) qd qb = own_cnt S qd qb := by rw [enx, own_cnt_s, if_neg (fun q => hp q.2)]
        refine ⟨T3, _, X3, e3, N3, fun target kt => ?_⟩
        rw [t1, t2, t3, t4] at kt
        show Steps p.tables e below (T0.setTop (mkF m 176 #[.val (.int cc), .val (.long r1), .second, .val (.long r2), .second, .val (.long r3), .second, .val (.int k), .val (.int qb), .val (.int qd), .val (.ref a), .val (.double (own_sum S qd qb)), .second, .val (.double (own_tot S qd)), .second, .val (.int (own_cnt S qd qb)), .val (.int (own_obs S qd)), .unset, .unset] [])) _
        refine XS.iload X0.here hx rfl (hb hby at_176) rfl ?_
        show Steps p.tables e below (T0.setTop (mkF m 178 #[.val (.int cc), .val (.long r1), .second, .val (.long r2), .second, .val (.long r3), .second, .val (.int k), .val (.int qb), .val (.int qd), .val (.ref a), .val (.double (own_sum S qd qb)), .second, .val (.double (own_tot S qd)), .second, .val (.int (own_cnt S qd qb)), .val (.int (own_obs S qd)), .unset, .unset] [(.int k)])) _
        refine XS.iconst X0.here hx rfl (hb hby at_178) ?_
        show Steps p.tables e below (T0.setTop (mkF m 179 #[.val (.int cc), .val (.long r1), .second, .val (.long r2), .second, .val (.long r3), .second, .val (.int k), .val (.int qb), .val (.int qd), .val (.ref a), .val (.double (own_sum S qd qb)), .second, .val (.double (own_tot S qd)), .second, .val (.int (own_cnt S qd qb)), .val (.int (own_obs S qd)), .unset, .unset] [(.int (3 : Int32)), (.int k)])) _
        refine XS.icmpNo X0.here hx rfl (hb hby at_179) rfl (flt h).1 ?_
        show Steps p.tables e below (T0.setTop (mkF m 182 #[.val (.int cc), .val (.long r1), .second, .val (.long r2), .second, .val (.long r3), .second, .val (.int k), .val (.int qb), .val (.int qd), .val (.ref a), .val (.double (own_sum S qd qb)), .second, .val (.double (own_tot S qd)), .second, .val (.int (own_cnt S qd qb)), .val (.int (own_obs S qd)), .unset, .unset] [])) _
        refine XS.lload X0.here hx rfl (hb hby at_182) rfl ?_
        show Steps p.tables e below (T0.setTop (mkF m 184 #[.val (.int cc), .val (.long r1), .second, .val (.long r2), .second, .val (.long r3), .second, .val (.int k), .val (.int qb), .val (.int qd), .val (.ref a), .val (.double (own_sum S qd qb)), .second, .val (.double (own_tot S qd)), .second, .val (.int (own_cnt S qd qb)), .val (.int (own_obs S qd)), .unset, .unset] [(.long r3)])) _
        refine st1 _ ?_
        show Steps p.tables e below (T1.setTop (mkF m 187 #[.val (.int cc), .val (.long r1), .second, .val (.long r2), .second, .val (.long r3), .second, .val (.int k), .val (.int qb), .val (.int qd), .val (.ref a), .val (.double (own_sum S qd qb)), .second, .val (.double (own_tot S qd)), .second, .val (.int (own_cnt S qd qb)), .val (.int (own_obs S qd)), .unset, .unset] [(.int (own_dir_f0 r3))])) _
        refine XS.iload X1.here hx rfl (hb hby at_187) rfl ?_
        show Steps p.tables e below (T1.setTop (mkF m 189 #[.val (.int cc), .val (.long r1), .second, .val (.long r2), .second, .val (.long r3), .second, .val (.int k), .val (.int qb), .val (.int qd), .val (.ref a), .val (.double (own_sum S qd qb)), .second, .val (.double (own_tot S qd)), .second, .val (.int (own_cnt S qd qb)), .val (.int (own_obs S qd)), .unset, .unset] [(.int qd), (.int (own_dir_f0 r3))])) _
        refine XS.icmpNo X1.here hx rfl (hb hby at_189) rfl (teq hq).2 ?_
        show Steps p.tables e below (T1.setTop (mkF m 192 #[.val (.int cc), .val (.long r1), .second, .val (.long r2), .second, .val (.long r3), .second, .val (.int k), .val (.int qb), .val (.int qd), .val (.ref a), .val (.double (own_sum S qd qb)), .second, .val (.double (own_tot S qd)), .second, .val (.int (own_cnt S qd qb)), .val (.int (own_obs S qd)), .unset, .unset] [])) _
        refine XS.dload X1.here hx rfl (hb hby at_192) rfl ?_
        show Steps p.tables e below (T1.setTop (mkF m 194 #[.val (.int cc), .val (.long r1), .second, .val (.long r2), .second, .val (.long r3), .second, .val (.int k), .val (.int qb), .val (.int qd), .val (.ref a), .val (.double (own_sum S qd qb)), .second, .val (.double (own_tot S qd)), .second, .val (.int (own_cnt S qd qb)), .val (.int (own_obs S qd)), .unset, .unset] [(.double (own_tot S qd))])) _
        refine XS.lload X1.here hx rfl (hb hby at_194) rfl ?_
        show Steps p.tables e below (T1.setTop (mkF m 196 #[.val (.int cc), .val (.long r1), .second, .val (.long r2), .second, .val (.long r3), .second, .val (.int k), .val (.int qb), .val (.int qd), .val (.ref a), .val (.double (own_sum S qd qb)), .second, .val (.double (own_tot S qd)), .second, .val (.int (own_cnt S qd qb)), .val (.int (own_obs S qd)), .unset, .unset] [(.long r3), (.double (own_tot S qd))])) _
        refine st2 _ ?_
        show Steps p.tables e below (T2.setTop (mkF m 199 #[.val (.int cc), .val (.long r1), .second, .val (.long r2), .second, .val (.long r3), .second, .val (.int k), .val (.int qb), .val (.int qd), .val (.ref a), .val (.double (own_sum S qd qb)), .second, .val (.double (own_tot S qd)), .second, .val (.int (own_cnt S qd qb)), .val (.int (own_obs S qd)), .unset, .unset] [(.double (own_val r3)), (.double (own_tot S qd))])) _
        refine XS.daddS X2.here hx rfl (hb hby at_199) rfl (own_add_nn (own_tot_mag hS qd) (own_val_mag r3)) rfl ?_
        show Steps p.tables e below (T2.setTop (mkF m 200 #[.val (.int cc), .val (.long r1), .second, .val (.long r2), .second, .val (.long r3), .second, .val (.int k), .val (.int qb), .val (.int qd), .val (.ref a), .val (.double (own_sum S qd qb)), .second, .val (.double (own_tot S qd)), .second, .val (.int (own_cnt S qd qb)), .val (.int (own_obs S qd)), .unset, .unset] [(.double (FP.dadd (own_tot S qd) (own_val r3)))])) _
        refine XS.dstore X2.here hx rfl (hb hby at_200) rfl (l' := #[.val (.int cc), .val (.long r1), .second, .val (.long r2), .second, .val (.long r3), .second, .val (.int k), .val (.int qb), .val (.int qd), .val (.ref a), .val (.double (own_sum S qd qb)), .second, .val (.double (FP.dadd (own_tot S qd) (own_val r3))), .second, .val (.int (own_cnt S qd qb)), .val (.int (own_obs S qd)), .unset, .unset]) rfl ?_
        show Steps p.tables e below (T2.setTop (mkF m 202 #[.val (.int cc), .val (.long r1), .second, .val (.long r2), .second, .val (.long r3), .second, .val (.int k), .val (.int qb), .val (.int qd), .val (.ref a), .val (.double (own_sum S qd qb)), .second, .val (.double (FP.dadd (own_tot S qd) (own_val r3))), .second, .val (.int (own_cnt S qd qb)), .val (.int (own_obs S qd)), .unset, .unset] [])) _
        refine XS.iinc X2.here hx rfl (hb hby at_202) rfl (l' := #[.val (.int cc), .val (.long r1), .second, .val (.long r2), .second, .val (.long r3), .second, .val (.int k), .val (.int qb), .val (.int qd), .val (.ref a), .val (.double (own_sum S qd qb)), .second, .val (.double (FP.dadd (own_tot S qd) (own_val r3))), .second, .val (.int (own_cnt S qd qb)), .val (.int ((own_obs S qd) + (1 : Int32))), .unset, .unset]) rfl ?_
        show Steps p.tables e below (T2.setTop (mkF m 205 #[.val (.int cc), .val (.long r1), .second, .val (.long r2), .second, .val (.long r3), .second, .val (.int k), .val (.int qb), .val (.int qd), .val (.ref a), .val (.double (own_sum S qd qb)), .second, .val (.double (FP.dadd (own_tot S qd) (own_val r3))), .second, .val (.int (own_cnt S qd qb)), .val (.int ((own_obs S qd) + (1 : Int32))), .unset, .unset] [])) _
        refine XS.lload X2.here hx rfl (hb hby at_205) rfl ?_
        show Steps p.tables e below (T2.setTop (mkF m 207 #[.val (.int cc), .val (.long r1), .second, .val (.long r2), .second, .val (.long r3), .second, .val (.int k), .val (.int qb), .val (.int qd), .val (.ref a), .val (.double (own_sum S qd qb)), .second, .val (.double (FP.dadd (own_tot S qd) (own_val r3))), .second, .val (.int (own_cnt S qd qb)), .val (.int ((own_obs S qd) + (1 : Int32))), .unset, .unset] [(.long r3)])) _
        refine st3 _ ?_
        show Steps p.tables e below (T3.setTop (mkF m 210 #[.val (.int cc), .val (.long r1), .second, .val (.long r2), .second, .val (.long r3), .second, .val (.int k), .val (.int qb), .val (.int qd), .val (.ref a), .val (.double (own_sum S qd qb)), .second, .val (.double (FP.dadd (own_tot S qd) (own_val r3))), .second, .val (.int (own_cnt S qd qb)), .val (.int ((own_obs S qd) + (1 : Int32))), .unset, .unset] [(.int (own_bid_f0 r3))])) _
        refine XS.iload X3.here hx rfl (hb hby at_210) rfl ?_
        show Steps p.tables e below (T3.setTop (mkF m 212 #[.val (.int cc), .val (.long r1), .second, .val (.long r2), .second, .val (.long r3), .second, .val (.int k), .val (.int qb), .val (.int qd), .val (.ref a), .val (.double (own_sum S qd qb)), .second, .val (.double (FP.dadd (own_tot S qd) (own_val r3))), .second, .val (.int (own_cnt S qd qb)), .val (.int ((own_obs S qd) + (1 : Int32))), .unset, .unset] [(.int qb), (.int (own_bid_f0 r3))])) _
        refine XS.icmpYes X3.here hx rfl (pc0 := 212) (pc' := 228) rfl (hb hby at_212) rfl (feq hp).2 (by decide) (by decide) ?_
        exact kt
    · have enx : (own_nx k 3 S r3) = S ++ [(own_bid_f0 r3, own_dir_f0 r3, own_val r3)] := by unfold own_nx; rw [if_neg h]; rfl
      have t1 : own_tot (own_nx k 3 S r3) qd = own_tot S qd := by rw [enx, own_tot_s, if_neg hq]
      have t2 : own_obs (own_nx k 3 S r3) qd = own_obs S qd := by rw [enx, own_obs_s, if_neg hq]
      have t3 : own_sum (own_nx k 3 S r3) qd qb = own_sum S qd qb := by rw [enx, own_sum_s, if_neg (fun q => hq q.1)]
      have t4 : own_cnt (own_nx k 3 S r3) qd qb = own_cnt S qd qb := by rw [enx, own_cnt_s, if_neg (fun q => hq q.1)]
      refine ⟨T1, _, X1, e1, N1, fun target kt => ?_⟩
      rw [t1, t2, t3, t4] at kt
      show Steps p.tables e below (T0.setTop (mkF m 176 #[.val (.int cc), .val (.long r1), .second, .val (.long r2), .second, .val (.long r3), .second, .val (.int k), .val (.int qb), .val (.int qd), .val (.ref a), .val (.double (own_sum S qd qb)), .second, .val (.double (own_tot S qd)), .second, .val (.int (own_cnt S qd qb)), .val (.int (own_obs S qd)), .unset, .unset] [])) _
      refine XS.iload X0.here hx rfl (hb hby at_176) rfl ?_
      show Steps p.tables e below (T0.setTop (mkF m 178 #[.val (.int cc), .val (.long r1), .second, .val (.long r2), .second, .val (.long r3), .second, .val (.int k), .val (.int qb), .val (.int qd), .val (.ref a), .val (.double (own_sum S qd qb)), .second, .val (.double (own_tot S qd)), .second, .val (.int (own_cnt S qd qb)), .val (.int (own_obs S qd)), .unset, .unset] [(.int k)])) _
      refine XS.iconst X0.here hx rfl (hb hby at_178) ?_
      show Steps p.tables e below (T0.setTop (mkF m 179 #[.val (.int cc), .val (.long r1), .second, .val (.long r2), .second, .val (.long r3), .second, .val (.int k), .val (.int qb), .val (.int qd), .val (.ref a), .val (.double (own_sum S qd qb)), .second, .val (.double (own_tot S qd)), .second, .val (.int (own_cnt S qd qb)), .val (.int (own_obs S qd)), .unset, .unset] [(.int (3 : Int32)), (.int k)])) _
      refine XS.icmpNo X0.here hx rfl (hb hby at_179) rfl (flt h).1 ?_
      show Steps p.tables e below (T0.setTop (mkF m 182 #[.val (.int cc), .val (.long r1), .second, .val (.long r2), .second, .val (.long r3), .second, .val (.int k), .val (.int qb), .val (.int qd), .val (.ref a), .val (.double (own_sum S qd qb)), .second, .val (.double (own_tot S qd)), .second, .val (.int (own_cnt S qd qb)), .val (.int (own_obs S qd)), .unset, .unset] [])) _
      refine XS.lload X0.here hx rfl (hb hby at_182) rfl ?_
      show Steps p.tables e below (T0.setTop (mkF m 184 #[.val (.int cc), .val (.long r1), .second, .val (.long r2), .second, .val (.long r3), .second, .val (.int k), .val (.int qb), .val (.int qd), .val (.ref a), .val (.double (own_sum S qd qb)), .second, .val (.double (own_tot S qd)), .second, .val (.int (own_cnt S qd qb)), .val (.int (own_obs S qd)), .unset, .unset] [(.long r3)])) _
      refine st1 _ ?_
      show Steps p.tables e below (T1.setTop (mkF m 187 #[.val (.int cc), .val (.long r1), .second, .val (.long r2), .second, .val (.long r3), .second, .val (.int k), .val (.int qb), .val (.int qd), .val (.ref a), .val (.double (own_sum S qd qb)), .second, .val (.double (own_tot S qd)), .second, .val (.int (own_cnt S qd qb)), .val (.int (own_obs S qd)), .unset, .unset] [(.int (own_dir_f0 r3))])) _
      refine XS.iload X1.here hx rfl (hb hby at_187) rfl ?_
      show Steps p.tables e below (T1.setTop (mkF m 189 #[.val (.int cc), .val (.long r1), .second, .val (.long r2), .second, .val (.long r3), .second, .val (.int k), .val (.int qb), .val (.int qd), .val (.ref a), .val (.double (own_sum S qd qb)), .second, .val (.double (own_tot S qd)), .second, .val (.int (own_cnt S qd qb)), .val (.int (own_obs S qd)), .unset, .unset] [(.int qd), (.int (own_dir_f0 r3))])) _
      refine XS.icmpYes X1.here hx rfl (pc0 := 189) (pc' := 228) rfl (hb hby at_189) rfl (feq hq).2 (by decide) (by decide) ?_
      exact kt
set_option maxRecDepth 65536 in
set_option maxHeartbeats 40000000 in
theorem own_ex {p : Program} {l : Launch} {e : Env} {R : Room} {s : State} {m : MethodId} {args : Array Value} {below : List Frame} {meth : Method} {c : Code} {T0 : State} {locs : List Loc} {cells slots : Nat}  (cc : Int32) (r1 r2 r3 : Int64) (k qb qd : Int32) (a : Nat) (sm tt : UInt64) (cn ob : Int32)
    (X0 : Stand p l e R s m args below meth c T0 locs cells slots) (hx : p.tables.exec = Jvm.exec) (hby : c.code = code) (nsm : Fl.NoNaN64 sm) (ntt : Fl.NoNaN64 tt) (target : State)
    (kt : Steps p.tables e below (T0.setTop (mkF m 263 #[.val (.int cc), .val (.long r1), .second, .val (.long r2), .second, .val (.long r3), .second, .val (.int k), .val (.int qb), .val (.int qd), .val (.ref a), .val (.double sm), .second, .val (.double tt), .second, .val (.int cn), .val (.int ob), .val (.double (own_per cn sm ob tt)), .second] [])) target) : Steps p.tables e below (T0.setTop (mkF m 228 #[.val (.int cc), .val (.long r1), .second, .val (.long r2), .second, .val (.long r3), .second, .val (.int k), .val (.int qb), .val (.int qd), .val (.ref a), .val (.double sm), .second, .val (.double tt), .second, .val (.int cn), .val (.int ob), .unset, .unset] [])) target := by
  unfold own_per at kt
  by_cases hc : 0 < cn
  · rw [if_pos hc] at kt
    show Steps p.tables e below (T0.setTop (mkF m 228 #[.val (.int cc), .val (.long r1), .second, .val (.long r2), .second, .val (.long r3), .second, .val (.int k), .val (.int qb), .val (.int qd), .val (.ref a), .val (.double sm), .second, .val (.double tt), .second, .val (.int cn), .val (.int ob), .unset, .unset] [])) _
    refine XS.iload X0.here hx rfl (hb hby at_228) rfl ?_
    show Steps p.tables e below (T0.setTop (mkF m 230 #[.val (.int cc), .val (.long r1), .second, .val (.long r2), .second, .val (.long r3), .second, .val (.int k), .val (.int qb), .val (.int qd), .val (.ref a), .val (.double sm), .second, .val (.double tt), .second, .val (.int cn), .val (.int ob), .unset, .unset] [(.int cn)])) _
    refine XS.ifNo X0.here hx rfl (hb hby at_230) rfl ((if0 _ _).trans (tlt hc).2.2.2) ?_
    show Steps p.tables e below (T0.setTop (mkF m 233 #[.val (.int cc), .val (.long r1), .second, .val (.long r2), .second, .val (.long r3), .second, .val (.int k), .val (.int qb), .val (.int qd), .val (.ref a), .val (.double sm), .second, .val (.double tt), .second, .val (.int cn), .val (.int ob), .unset, .unset] [])) _
    refine XS.dload X0.here hx rfl (hb hby at_233) rfl ?_
    show Steps p.tables e below (T0.setTop (mkF m 235 #[.val (.int cc), .val (.long r1), .second, .val (.long r2), .second, .val (.long r3), .second, .val (.int k), .val (.int qb), .val (.int qd), .val (.ref a), .val (.double sm), .second, .val (.double tt), .second, .val (.int cn), .val (.int ob), .unset, .unset] [(.double sm)])) _
    refine XS.iload X0.here hx rfl (hb hby at_235) rfl ?_
    show Steps p.tables e below (T0.setTop (mkF m 237 #[.val (.int cc), .val (.long r1), .second, .val (.long r2), .second, .val (.long r3), .second, .val (.int k), .val (.int qb), .val (.int qd), .val (.ref a), .val (.double sm), .second, .val (.double tt), .second, .val (.int cn), .val (.int ob), .unset, .unset] [(.int cn), (.double sm)])) _
    refine XS.i2dS X0.here hx rfl (hb hby at_237) rfl rfl ?_
    show Steps p.tables e below (T0.setTop (mkF m 238 #[.val (.int cc), .val (.long r1), .second, .val (.long r2), .second, .val (.long r3), .second, .val (.int k), .val (.int qb), .val (.int qd), .val (.ref a), .val (.double sm), .second, .val (.double tt), .second, .val (.int cn), .val (.int ob), .unset, .unset] [(.double (FP.i2d cn)), (.double sm)])) _
    refine XS.ddivS X0.here hx rfl (hb hby at_238) rfl (own_div nsm (own_pos hc)) rfl ?_
    show Steps p.tables e below (T0.setTop (mkF m 239 #[.val (.int cc), .val (.long r1), .second, .val (.long r2), .second, .val (.long r3), .second, .val (.int k), .val (.int qb), .val (.int qd), .val (.ref a), .val (.double sm), .second, .val (.double tt), .second, .val (.int cn), .val (.int ob), .unset, .unset] [(.double (FP.ddiv sm (FP.i2d cn)))])) _
    refine XS.dstore X0.here hx rfl (hb hby at_239) rfl (l' := #[.val (.int cc), .val (.long r1), .second, .val (.long r2), .second, .val (.long r3), .second, .val (.int k), .val (.int qb), .val (.int qd), .val (.ref a), .val (.double sm), .second, .val (.double tt), .second, .val (.int cn), .val (.int ob), .val (.double (FP.ddiv sm (FP.i2d cn))), .second]) rfl ?_
    show Steps p.tables e below (T0.setTop (mkF m 241 #[.val (.int cc), .val (.long r1), .second, .val (.long r2), .second, .val (.long r3), .second, .val (.int k), .val (.int qb), .val (.int qd), .val (.ref a), .val (.double sm), .second, .val (.double tt), .second, .val (.int cn), .val (.int ob), .val (.double (FP.ddiv sm (FP.i2d cn))), .second] [])) _
    refine XS.goto X0.here hx rfl (pc0 := 241) (pc' := 263) rfl (hb hby at_241) (by decide) (by decide) ?_
    exact kt
  · rw [if_neg hc] at kt
    by_cases ho : 0 < ob
    · rw [if_pos ho] at kt
      show Steps p.tables e below (T0.setTop (mkF m 228 #[.val (.int cc), .val (.long r1), .second, .val (.long r2), .second, .val (.long r3), .second, .val (.int k), .val (.int qb), .val (.int qd), .val (.ref a), .val (.double sm), .second, .val (.double tt), .second, .val (.int cn), .val (.int ob), .unset, .unset] [])) _
      refine XS.iload X0.here hx rfl (hb hby at_228) rfl ?_
      show Steps p.tables e below (T0.setTop (mkF m 230 #[.val (.int cc), .val (.long r1), .second, .val (.long r2), .second, .val (.long r3), .second, .val (.int k), .val (.int qb), .val (.int qd), .val (.ref a), .val (.double sm), .second, .val (.double tt), .second, .val (.int cn), .val (.int ob), .unset, .unset] [(.int cn)])) _
      refine XS.ifYes X0.here hx rfl (pc0 := 230) (pc' := 244) rfl (hb hby at_230) rfl ((if0 _ _).trans (flt hc).2.2.2) (by decide) (by decide) ?_
      show Steps p.tables e below (T0.setTop (mkF m 244 #[.val (.int cc), .val (.long r1), .second, .val (.long r2), .second, .val (.long r3), .second, .val (.int k), .val (.int qb), .val (.int qd), .val (.ref a), .val (.double sm), .second, .val (.double tt), .second, .val (.int cn), .val (.int ob), .unset, .unset] [])) _
      refine XS.iload X0.here hx rfl (hb hby at_244) rfl ?_
      show Steps p.tables e below (T0.setTop (mkF m 246 #[.val (.int cc), .val (.long r1), .second, .val (.long r2), .second, .val (.long r3), .second, .val (.int k), .val (.int qb), .val (.int qd), .val (.ref a), .val (.double sm), .second, .val (.double tt), .second, .val (.int cn), .val (.int ob), .unset, .unset] [(.int ob)])) _
      refine XS.ifNo X0.here hx rfl (hb hby at_246) rfl ((if0 _ _).trans (tlt ho).2.2.2) ?_
      show Steps p.tables e below (T0.setTop (mkF m 249 #[.val (.int cc), .val (.long r1), .second, .val (.long r2), .second, .val (.long r3), .second, .val (.int k), .val (.int qb), .val (.int qd), .val (.ref a), .val (.double sm), .second, .val (.double tt), .second, .val (.int cn), .val (.int ob), .unset, .unset] [])) _
      refine XS.dload X0.here hx rfl (hb hby at_249) rfl ?_
      show Steps p.tables e below (T0.setTop (mkF m 251 #[.val (.int cc), .val (.long r1), .second, .val (.long r2), .second, .val (.long r3), .second, .val (.int k), .val (.int qb), .val (.int qd), .val (.ref a), .val (.double sm), .second, .val (.double tt), .second, .val (.int cn), .val (.int ob), .unset, .unset] [(.double tt)])) _
      refine XS.iload X0.here hx rfl (hb hby at_251) rfl ?_
      show Steps p.tables e below (T0.setTop (mkF m 253 #[.val (.int cc), .val (.long r1), .second, .val (.long r2), .second, .val (.long r3), .second, .val (.int k), .val (.int qb), .val (.int qd), .val (.ref a), .val (.double sm), .second, .val (.double tt), .second, .val (.int cn), .val (.int ob), .unset, .unset] [(.int ob), (.double tt)])) _
      refine XS.i2dS X0.here hx rfl (hb hby at_253) rfl rfl ?_
      show Steps p.tables e below (T0.setTop (mkF m 254 #[.val (.int cc), .val (.long r1), .second, .val (.long r2), .second, .val (.long r3), .second, .val (.int k), .val (.int qb), .val (.int qd), .val (.ref a), .val (.double sm), .second, .val (.double tt), .second, .val (.int cn), .val (.int ob), .unset, .unset] [(.double (FP.i2d ob)), (.double tt)])) _
      refine XS.ddivS X0.here hx rfl (hb hby at_254) rfl (own_div ntt (own_pos ho)) rfl ?_
      show Steps p.tables e below (T0.setTop (mkF m 255 #[.val (.int cc), .val (.long r1), .second, .val (.long r2), .second, .val (.long r3), .second, .val (.int k), .val (.int qb), .val (.int qd), .val (.ref a), .val (.double sm), .second, .val (.double tt), .second, .val (.int cn), .val (.int ob), .unset, .unset] [(.double (FP.ddiv tt (FP.i2d ob)))])) _
      refine XS.dstore X0.here hx rfl (hb hby at_255) rfl (l' := #[.val (.int cc), .val (.long r1), .second, .val (.long r2), .second, .val (.long r3), .second, .val (.int k), .val (.int qb), .val (.int qd), .val (.ref a), .val (.double sm), .second, .val (.double tt), .second, .val (.int cn), .val (.int ob), .val (.double (FP.ddiv tt (FP.i2d ob))), .second]) rfl ?_
      show Steps p.tables e below (T0.setTop (mkF m 257 #[.val (.int cc), .val (.long r1), .second, .val (.long r2), .second, .val (.long r3), .second, .val (.int k), .val (.int qb), .val (.int qd), .val (.ref a), .val (.double sm), .second, .val (.double tt), .second, .val (.int cn), .val (.int ob), .val (.double (FP.ddiv tt (FP.i2d ob))), .second] [])) _
      refine XS.goto X0.here hx rfl (pc0 := 257) (pc' := 263) rfl (hb hby at_257) (by decide) (by decide) ?_
      exact kt
    · rw [if_neg ho] at kt
      show Steps p.tables e below (T0.setTop (mkF m 228 #[.val (.int cc), .val (.long r1), .second, .val (.long r2), .second, .val (.long r3), .second, .val (.int k), .val (.int qb), .val (.int qd), .val (.ref a), .val (.double sm), .second, .val (.double tt), .second, .val (.int cn), .val (.int ob), .unset, .unset] [])) _
      refine XS.iload X0.here hx rfl (hb hby at_228) rfl ?_
      show Steps p.tables e below (T0.setTop (mkF m 230 #[.val (.int cc), .val (.long r1), .second, .val (.long r2), .second, .val (.long r3), .second, .val (.int k), .val (.int qb), .val (.int qd), .val (.ref a), .val (.double sm), .second, .val (.double tt), .second, .val (.int cn), .val (.int ob), .unset, .unset] [(.int cn)])) _
      refine XS.ifYes X0.here hx rfl (pc0 := 230) (pc' := 244) rfl (hb hby at_230) rfl ((if0 _ _).trans (flt hc).2.2.2) (by decide) (by decide) ?_
      show Steps p.tables e below (T0.setTop (mkF m 244 #[.val (.int cc), .val (.long r1), .second, .val (.long r2), .second, .val (.long r3), .second, .val (.int k), .val (.int qb), .val (.int qd), .val (.ref a), .val (.double sm), .second, .val (.double tt), .second, .val (.int cn), .val (.int ob), .unset, .unset] [])) _
      refine XS.iload X0.here hx rfl (hb hby at_244) rfl ?_
      show Steps p.tables e below (T0.setTop (mkF m 246 #[.val (.int cc), .val (.long r1), .second, .val (.long r2), .second, .val (.long r3), .second, .val (.int k), .val (.int qb), .val (.int qd), .val (.ref a), .val (.double sm), .second, .val (.double tt), .second, .val (.int cn), .val (.int ob), .unset, .unset] [(.int ob)])) _
      refine XS.ifYes X0.here hx rfl (pc0 := 246) (pc' := 260) rfl (hb hby at_246) rfl ((if0 _ _).trans (flt ho).2.2.2) (by decide) (by decide) ?_
      show Steps p.tables e below (T0.setTop (mkF m 260 #[.val (.int cc), .val (.long r1), .second, .val (.long r2), .second, .val (.long r3), .second, .val (.int k), .val (.int qb), .val (.int qd), .val (.ref a), .val (.double sm), .second, .val (.double tt), .second, .val (.int cn), .val (.int ob), .unset, .unset] [])) _
      refine XS.dconst1 X0.here hx rfl (hb hby at_260) rfl ?_
      show Steps p.tables e below (T0.setTop (mkF m 261 #[.val (.int cc), .val (.long r1), .second, .val (.long r2), .second, .val (.long r3), .second, .val (.int k), .val (.int qb), .val (.int qd), .val (.ref a), .val (.double sm), .second, .val (.double tt), .second, .val (.int cn), .val (.int ob), .unset, .unset] [(.double FP.dconst1)])) _
      refine XS.dstore X0.here hx rfl (hb hby at_261) rfl (l' := #[.val (.int cc), .val (.long r1), .second, .val (.long r2), .second, .val (.long r3), .second, .val (.int k), .val (.int qb), .val (.int qd), .val (.ref a), .val (.double sm), .second, .val (.double tt), .second, .val (.int cn), .val (.int ob), .val (.double FP.dconst1), .second]) rfl ?_
      exact kt
theorem ef_0 (m : MethodId) (cc : Int32) (r1 r2 r3 : Int64) : entryFrame m #[(.int cc), (.long r1), (.long r2), (.long r3)] maxLocals = (mkF m 0 #[.val (.int cc), .val (.long r1), .second, .val (.long r2), .second, .val (.long r3), .second, .unset, .unset, .unset, .unset, .unset, .unset, .unset, .unset, .unset, .unset, .unset, .unset] []) := by first | (simp [entryFrame, mkF, argsToLocals, Value.category, maxLocals]; done) | rfl
set_option maxRecDepth 65536 in
set_option maxHeartbeats 40000000 in
theorem rm0 (l : Launch) (Z : State) (a0 : Array Value) (hw : ∀ d ∈ tables_1, d.before a0 Z = true) (ws' : List Jvm.Cond) (cc : Int32) (r1 r2 r3 : Int64) (h0 : Heap) (n0 : Nat) (Z0 : n0 ≤ h0.size) :
    MetFree l x (head1 (Jvm.Cond.code x code maxLocals ret :: ws') room_1) (fun aa U => aa = #[(.int cc), (.long r1), (.long r2), (.long r3)] ∧ Z.Warmed39 U.vm ∧ U.heap = h0) (fun _ _ _ _ _ => True) (fun _ U o U' => ∃ v L, o = .returned v ∧ (v = some (.int (1 : Int32)) ∧ Fr n0 L) ∧ FrameEnd U o U' L room_1.cells room_1.slots) := by
  refine MetFree.of_bodySF (plainFor_of_name pn_L) hisR ?_
  intro p e s m args below meth c s₁ Bd hml0 hP hK
  obtain ⟨rfl, hZ, hh⟩ := hP
  have hx := Bd.exec
  have hby := Bd.bytes
  have hml : c.maxLocals = 19 := hml0
  have hown : s.vm.findClass "com/example/bundlewright/bundlewright/PseudocostsPerUnitPinLaw" = some m.cls := findClass_of_methodNamed Bd.named
  have X0 : Stand p l e room_1 s m #[(.int cc), (.long r1), (.long r2), (.long r3)] below meth c s₁ [] 0 0 := Stand.of_body Bd
  have e0 : s₁.heap = h0 := by rw [← hh, Bd.state]; rfl
  have N0 := Fr.nil n0
  obtain ⟨k, hk⟩ : ∃ z, z = own_qk cc := ⟨_, rfl⟩
  obtain ⟨qb, hqb⟩ : ∃ z, z = own_qb cc := ⟨_, rfl⟩
  obtain ⟨qd, hqd⟩ : ∃ z, z = own_qd cc := ⟨_, rfl⟩
  have hB : qb = 0 ∨ qb = 1 ∨ qb = 2 := by rw [hqb]; exact own_qb_r cc
  have hD : qd = 0 ∨ qd = 1 := by rw [hqd]; exact own_qd_r cc
  have stq : ∀ t, Steps p.tables e below (s₁.setTop (mkF m 21 #[.val (.int cc), .val (.long r1), .second, .val (.long r2), .second, .val (.long r3), .second, .val (.int k), .val (.int qb), .val (.int qd), .unset, .unset, .unset, .unset, .unset, .unset, .unset, .unset, .unset] [])) t → Steps p.tables e below (s₁.setTop (mkF m 0 #[.val (.int cc), .val (.long r1), .second, .val (.long r2), .second, .val (.long r3), .second, .unset, .unset, .unset, .unset, .unset, .unset, .unset, .unset, .unset, .unset, .unset, .unset] [])) t := fun t kt => by
    subst hk hqb hqd
    show Steps p.tables e below (s₁.setTop (mkF m 0 #[.val (.int cc), .val (.long r1), .second, .val (.long r2), .second, .val (.long r3), .second, .unset, .unset, .unset, .unset, .unset, .unset, .unset, .unset, .unset, .unset, .unset, .unset] [])) _
    refine XS.iloadN X0.here hx rfl (hb hby at_0) rfl ?_
    show Steps p.tables e below (s₁.setTop (mkF m 1 #[.val (.int cc), .val (.long r1), .second, .val (.long r2), .second, .val (.long r3), .second, .unset, .unset, .unset, .unset, .unset, .unset, .unset, .unset, .unset, .unset, .unset, .unset] [(.int cc)])) _
    refine XS.iconst X0.here hx rfl (hb hby at_1) ?_
    show Steps p.tables e below (s₁.setTop (mkF m 2 #[.val (.int cc), .val (.long r1), .second, .val (.long r2), .second, .val (.long r3), .second, .unset, .unset, .unset, .unset, .unset, .unset, .unset, .unset, .unset, .unset, .unset, .unset] [(.int (3 : Int32)), (.int cc)])) _
    refine XS.iand X0.here hx rfl (hb hby at_2) rfl ?_
    show Steps p.tables e below (s₁.setTop (mkF m 3 #[.val (.int cc), .val (.long r1), .second, .val (.long r2), .second, .val (.long r3), .second, .unset, .unset, .unset, .unset, .unset, .unset, .unset, .unset, .unset, .unset, .unset, .unset] [(.int (cc &&& (3 : Int32)))])) _
    refine XS.istore X0.here hx rfl (hb hby at_3) rfl (l' := #[.val (.int cc), .val (.long r1), .second, .val (.long r2), .second, .val (.long r3), .second, .val (.int (cc &&& (3 : Int32))), .unset, .unset, .unset, .unset, .unset, .unset, .unset, .unset, .unset, .unset, .unset]) rfl ?_
    show Steps p.tables e below (s₁.setTop (mkF m 5 #[.val (.int cc), .val (.long r1), .second, .val (.long r2), .second, .val (.long r3), .second, .val (.int (cc &&& (3 : Int32))), .unset, .unset, .unset, .unset, .unset, .unset, .unset, .unset, .unset, .unset, .unset] [])) _
    refine XS.iloadN X0.here hx rfl (hb hby at_5) rfl ?_
    show Steps p.tables e below (s₁.setTop (mkF m 6 #[.val (.int cc), .val (.long r1), .second, .val (.long r2), .second, .val (.long r3), .second, .val (.int (cc &&& (3 : Int32))), .unset, .unset, .unset, .unset, .unset, .unset, .unset, .unset, .unset, .unset, .unset] [(.int cc)])) _
    refine XS.iconst X0.here hx rfl (hb hby at_6) ?_
    show Steps p.tables e below (s₁.setTop (mkF m 7 #[.val (.int cc), .val (.long r1), .second, .val (.long r2), .second, .val (.long r3), .second, .val (.int (cc &&& (3 : Int32))), .unset, .unset, .unset, .unset, .unset, .unset, .unset, .unset, .unset, .unset, .unset] [(.int (2 : Int32)), (.int cc)])) _
    refine XS.iushr X0.here hx rfl (hb hby at_7) rfl ?_
    show Steps p.tables e below (s₁.setTop (mkF m 8 #[.val (.int cc), .val (.long r1), .second, .val (.long r2), .second, .val (.long r3), .second, .val (.int (cc &&& (3 : Int32))), .unset, .unset, .unset, .unset, .unset, .unset, .unset, .unset, .unset, .unset, .unset] [(.int ((cc.toUInt32 >>> ((2 : Int32) &&& 31).toUInt32).toInt32))])) _
    refine XS.iconst X0.here hx rfl (hb hby at_8) ?_
    show Steps p.tables e below (s₁.setTop (mkF m 9 #[.val (.int cc), .val (.long r1), .second, .val (.long r2), .second, .val (.long r3), .second, .val (.int (cc &&& (3 : Int32))), .unset, .unset, .unset, .unset, .unset, .unset, .unset, .unset, .unset, .unset, .unset] [(.int (3 : Int32)), (.int ((cc.toUInt32 >>> ((2 : Int32) &&& 31).toUInt32).toInt32))])) _
    refine XS.iand X0.here hx rfl (hb hby at_9) rfl ?_
    show Steps p.tables e below (s₁.setTop (mkF m 10 #[.val (.int cc), .val (.long r1), .second, .val (.long r2), .second, .val (.long r3), .second, .val (.int (cc &&& (3 : Int32))), .unset, .unset, .unset, .unset, .unset, .unset, .unset, .unset, .unset, .unset, .unset] [(.int (((cc.toUInt32 >>> ((2 : Int32) &&& 31).toUInt32).toInt32) &&& (3 : Int32)))])) _
    refine XS.iconst X0.here hx rfl (hb hby at_10) ?_
    show Steps p.tables e below (s₁.setTop (mkF m 11 #[.val (.int cc), .val (.long r1), .second, .val (.long r2), .second, .val (.long r3), .second, .val (.int (cc &&& (3 : Int32))), .unset, .unset, .unset, .unset, .unset, .unset, .unset, .unset, .unset, .unset, .unset] [(.int (3 : Int32)), (.int (((cc.toUInt32 >>> ((2 : Int32) &&& 31).toUInt32).toInt32) &&& (3 : Int32)))])) _
    refine XS.irem X0.here hx rfl (hb hby at_11) rfl (by decide) ?_
    show Steps p.tables e below (s₁.setTop (mkF m 12 #[.val (.int cc), .val (.long r1), .second, .val (.long r2), .second, .val (.long r3), .second, .val (.int (cc &&& (3 : Int32))), .unset, .unset, .unset, .unset, .unset, .unset, .unset, .unset, .unset, .unset, .unset] [(.int ((((cc.toUInt32 >>> ((2 : Int32) &&& 31).toUInt32).toInt32) &&& (3 : Int32)) - (((cc.toUInt32 >>> ((2 : Int32) &&& 31).toUInt32).toInt32) &&& (3 : Int32)) / (3 : Int32) * (3 : Int32)))])) _
    refine XS.istore X0.here hx rfl (hb hby at_12) rfl (l' := #[.val (.int cc), .val (.long r1), .second, .val (.long r2), .second, .val (.long r3), .second, .val (.int (cc &&& (3 : Int32))), .val (.int ((((cc.toUInt32 >>> ((2 : Int32) &&& 31).toUInt32).toInt32) &&& (3 : Int32)) - (((cc.toUInt32 >>> ((2 : Int32) &&& 31).toUInt32).toInt32) &&& (3 : Int32)) / (3 : Int32) * (3 : Int32))), .unset, .unset, .unset, .unset, .unset, .unset, .unset, .unset, .unset, .unset]) rfl ?_
    show Steps p.tables e below (s₁.setTop (mkF m 14 #[.val (.int cc), .val (.long r1), .second, .val (.long r2), .second, .val (.long r3), .second, .val (.int (cc &&& (3 : Int32))), .val (.int ((((cc.toUInt32 >>> ((2 : Int32) &&& 31).toUInt32).toInt32) &&& (3 : Int32)) - (((cc.toUInt32 >>> ((2 : Int32) &&& 31).toUInt32).toInt32) &&& (3 : Int32)) / (3 : Int32) * (3 : Int32))), .unset, .unset, .unset, .unset, .unset, .unset, .unset, .unset, .unset, .unset] [])) _
    refine XS.iloadN X0.here hx rfl (hb hby at_14) rfl ?_
    show Steps p.tables e below (s₁.setTop (mkF m 15 #[.val (.int cc), .val (.long r1), .second, .val (.long r2), .second, .val (.long r3), .second, .val (.int (cc &&& (3 : Int32))), .val (.int ((((cc.toUInt32 >>> ((2 : Int32) &&& 31).toUInt32).toInt32) &&& (3 : Int32)) - (((cc.toUInt32 >>> ((2 : Int32) &&& 31).toUInt32).toInt32) &&& (3 : Int32)) / (3 : Int32) * (3 : Int32))), .unset, .unset, .unset, .unset, .unset, .unset, .unset, .unset, .unset, .unset] [(.int cc)])) _
    refine XS.iconst X0.here hx rfl (hb hby at_15) ?_
    show Steps p.tables e below (s₁.setTop (mkF m 16 #[.val (.int cc), .val (.long r1), .second, .val (.long r2), .second, .val (.long r3), .second, .val (.int (cc &&& (3 : Int32))), .val (.int ((((cc.toUInt32 >>> ((2 : Int32) &&& 31).toUInt32).toInt32) &&& (3 : Int32)) - (((cc.toUInt32 >>> ((2 : Int32) &&& 31).toUInt32).toInt32) &&& (3 : Int32)) / (3 : Int32) * (3 : Int32))), .unset, .unset, .unset, .unset, .unset, .unset, .unset, .unset, .unset, .unset] [(.int (4 : Int32)), (.int cc)])) _
    refine XS.iushr X0.here hx rfl (hb hby at_16) rfl ?_
    show Steps p.tables e below (s₁.setTop (mkF m 17 #[.val (.int cc), .val (.long r1), .second, .val (.long r2), .second, .val (.long r3), .second, .val (.int (cc &&& (3 : Int32))), .val (.int ((((cc.toUInt32 >>> ((2 : Int32) &&& 31).toUInt32).toInt32) &&& (3 : Int32)) - (((cc.toUInt32 >>> ((2 : Int32) &&& 31).toUInt32).toInt32) &&& (3 : Int32)) / (3 : Int32) * (3 : Int32))), .unset, .unset, .unset, .unset, .unset, .unset, .unset, .unset, .unset, .unset] [(.int ((cc.toUInt32 >>> ((4 : Int32) &&& 31).toUInt32).toInt32))])) _
    refine XS.iconst X0.here hx rfl (hb hby at_17) ?_
    show Steps p.tables e below (s₁.setTop (mkF m 18 #[.val (.int cc), .val (.long r1), .second, .val (.long r2), .second, .val (.long r3), .second, .val (.int (cc &&& (3 : Int32))), .val (.int ((((cc.toUInt32 >>> ((2 : Int32) &&& 31).toUInt32).toInt32) &&& (3 : Int32)) - (((cc.toUInt32 >>> ((2 : Int32) &&& 31).toUInt32).toInt32) &&& (3 : Int32)) / (3 : Int32) * (3 : Int32))), .unset, .unset, .unset, .unset, .unset, .unset, .unset, .unset, .unset, .unset] [(.int (1 : Int32)), (.int ((cc.toUInt32 >>> ((4 : Int32) &&& 31).toUInt32).toInt32))])) _
    refine XS.iand X0.here hx rfl (hb hby at_18) rfl ?_
    show Steps p.tables e below (s₁.setTop (mkF m 19 #[.val (.int cc), .val (.long r1), .second, .val (.long r2), .second, .val (.long r3), .second, .val (.int (cc &&& (3 : Int32))), .val (.int ((((cc.toUInt32 >>> ((2 : Int32) &&& 31).toUInt32).toInt32) &&& (3 : Int32)) - (((cc.toUInt32 >>> ((2 : Int32) &&& 31).toUInt32).toInt32) &&& (3 : Int32)) / (3 : Int32) * (3 : Int32))), .unset, .unset, .unset, .unset, .unset, .unset, .unset, .unset, .unset, .unset] [(.int (((cc.toUInt32 >>> ((4 : Int32) &&& 31).toUInt32).toInt32) &&& (1 : Int32)))])) _
    refine XS.istore X0.here hx rfl (hb hby at_19) rfl (l' := #[.val (.int cc), .val (.long r1), .second, .val (.long r2), .second, .val (.long r3), .second, .val (.int (cc &&& (3 : Int32))), .val (.int ((((cc.toUInt32 >>> ((2 : Int32) &&& 31).toUInt32).toInt32) &&& (3 : Int32)) - (((cc.toUInt32 >>> ((2 : Int32) &&& 31).toUInt32).toInt32) &&& (3 : Int32)) / (3 : Int32) * (3 : Int32))), .val (.int (((cc.toUInt32 >>> ((4 : Int32) &&& 31).toUInt32).toInt32) &&& (1 : Int32))), .unset, .unset, .unset, .unset, .unset, .unset, .unset, .unset, .unset]) rfl ?_
    show Steps p.tables e below (s₁.setTop (mkF m 21 #[.val (.int cc), .val (.long r1), .second, .val (.long r2), .second, .val (.long r3), .second, .val (.int (cc &&& (3 : Int32))), .val (.int ((((cc.toUInt32 >>> ((2 : Int32) &&& 31).toUInt32).toInt32) &&& (3 : Int32)) - (((cc.toUInt32 >>> ((2 : Int32) &&& 31).toUInt32).toInt32) &&& (3 : Int32)) / (3 : Int32) * (3 : Int32))), .val (.int (((cc.toUInt32 >>> ((4 : Int32) &&& 31).toUInt32).toInt32) &&& (1 : Int32))), .unset, .unset, .unset, .unset, .unset, .unset, .unset, .unset, .unset] [])) _
    exact kt
  obtain ⟨T1, h1, X1, e1, E1, A1, D1, -, st1⟩ := newO X0 hx hZ hown (hw _ (List.mem_of_getElem? (i := 0) rfl)) (hw _ (List.mem_of_getElem? (i := 1) rfl)) (hw _ (List.mem_of_getElem? (i := 2) rfl)) e0 (g := (mkF m 21 #[.val (.int cc), .val (.long r1), .second, .val (.long r2), .second, .val (.long r3), .second, .val (.int k), .val (.int qb), .val (.int qd), .unset, .unset, .unset, .unset, .unset, .unset, .unset, .unset, .unset] [])) rfl (hb hby at_21) (by decide) (by decide)
  obtain ⟨a, g1⟩ : ∃ z, z = h0.size := ⟨_, rfl⟩
  rw [← g1] at A1 D1 st1
  have ga : n0 ≤ a := Nat.le_trans Z0 (Nat.le_of_eq g1.symm)
  have Z1 : n0 ≤ h1.size := Nat.le_trans Z0 E1.1
  obtain ⟨_, _, ⟨T2, L2, k2, n2⟩, -, X2, ⟨Lc2, hQ2, l2, y2, z2⟩, st2⟩ := X1.specialBack hx (y := (⟨"com/example/bundlewright/bundlewright/Pseudocosts", "<init>", "(I)V"⟩ : MethodName)) rfl hown (mvT hZ (hw _ (List.mem_of_getElem? (i := 3) rfl))) (mvT hZ (hw _ (List.mem_of_getElem? (i := 4) rfl))) (mvT hZ (hw _ (List.mem_of_getElem? (i := 5) rfl))) (by decide) (backOf (W := 1) (rm1 l Z a0 hw [] a h1 n0 Z1 A1 _ _ _ _ (D1 (Or.inr (hw _ (List.mem_of_getElem? (i := 11) rfl))) (ty := (.array .double)) (by decide)) (D1 (Or.inr (hw _ (List.mem_of_getElem? (i := 14) rfl))) (ty := (.array .int)) (by decide)) (D1 (Or.inr (hw _ (List.mem_of_getElem? (i := 18) rfl))) (ty := (.array (.array .double))) (by decide)) (D1 (Or.inr (hw _ (List.mem_of_getElem? (i := 22) rfl))) (ty := (.array (.array .int))) (by decide)) ga) hZ (hw _ (List.mem_of_getElem? (i := 5) rfl)) (hw _ (List.mem_of_getElem? (i := 2) rfl)) (by decide) (by decide)) (g := (mkF m 26 #[.val (.int cc), .val (.long r1), .second, .val (.long r2), .second, .val (.long r3), .second, .val (.int k), .val (.int qb), .val (.int qd), .unset, .unset, .unset, .unset, .unset, .unset, .unset, .unset, .unset] [(.int (3 : Int32)), (.ref a), (.ref a)])) rfl (by rw [hml]; rfl) (Steps.refl _) (a := a) (argsL := [(.int (3 : Int32))]) (rest := [(.ref a)]) (lenOf (show parseMethodDescriptor "(I)V" = some ⟨[.int], none⟩ from by decide +kernel) rfl) rfl (by show 2 * 0 + _ ≤ _; exact Nat.le_of_eq rfl) (hb hby at_26) (fun _ _ => ⟨rfl, e1, (by decide : 0 + 1 + 8 ≤ _), (by decide : 0 + 4 + 20 ≤ _)⟩)
  dsimp only [Pt.U, Pt.locs, Pt.cells, Pt.slots] at X2 l2 y2 z2 st2 hQ2
  subst l2 y2 z2
  obtain ⟨rfl, N2q, hs2, tA, oA, sA, x0, x1, cA, y0, y1, P2, ch⟩ := hQ2
  have N2 := Fr.app N0 N2q
  have Z2 : n0 ≤ T2.heap.size := Nat.le_trans Z1 hs2
  have M0 : own_sml 0 [] := ⟨Nat.le_refl _, fun r q => nomatch q⟩
  obtain ⟨T3, h3, L3, X3, e3, N3, Z3, P3, st3⟩ := own_rc1 cc r1 r2 r3 k qb qd a tA oA sA x0 x1 cA y0 y1 [] X2 hx hZ hw hby hml hown rfl n0 Z2 N2 P2 ch (M0.small (by decide))
  have M1 := own_nx_sml M0 k 1 r1
  obtain ⟨T4, h4, L4, X4, e4, N4, Z4, P4, st4⟩ := own_rc2 cc r1 r2 r3 k qb qd a tA oA sA x0 x1 cA y0 y1 (own_nx k 1 [] r1) X3 hx hZ hw hby hml hown e3 n0 Z3 N3 P3 ch (M1.small (by decide))
  have M2 := own_nx_sml M1 k 2 r2
  obtain ⟨T5, h5, L5, X5, e5, N5, Z5, P5, st5⟩ := own_rc3 cc r1 r2 r3 k qb qd a tA oA sA x0 x1 cA y0 y1 (own_nx k 2 (own_nx k 1 [] r1) r2) X4 hx hZ hw hby hml hown e4 n0 Z4 N4 P4 ch (M2.small (by decide))
  have M3 := own_nx_sml M2 k 3 r3
  obtain ⟨T6, L6, X6, e6, N6, st6⟩ := own_ac1 cc r1 r2 r3 k qb qd a [] X5 hx hZ hw hby hml hown e5 n0 Z5 N5 (M0.small (by decide))
  obtain ⟨T7, L7, X7, e7, N7, st7⟩ := own_ac2 cc r1 r2 r3 k qb qd a (own_nx k 1 [] r1) X6 hx hZ hw hby hml hown e6 n0 Z5 N6 (M1.small (by decide))
  obtain ⟨T8, L8, X8, e8, N8, st8⟩ := own_ac3 cc r1 r2 r3 k qb qd a (own_nx k 2 (own_nx k 1 [] r1) r2) X7 hx hZ hw hby hml hown e7 n0 Z5 N7 (M2.small (by decide))
  have hS := M3.small (Nat.le_refl _)
  obtain ⟨S, hSS⟩ : ∃ z, z = (own_nx k 3 (own_nx k 2 (own_nx k 1 [] r1) r2) r3) := ⟨_, rfl⟩
  rw [← hSS] at hS P5 st8
  have nsm := ((own_sum_mag hS qd qb).fin (by decide)).noNaN
  have ntt := ((own_tot_mag hS qd).fin (by decide)).noNaN
  obtain ⟨cq9, kq9, q9a, q9b, q9c⟩ := isOf hZ e8 P5.1
  obtain ⟨_, _, ⟨T9, L9, k9, n9⟩, -, X9, ⟨Lc9, hQ9, l9, y9, z9⟩, st9⟩ := X8.virtualBack hx (y := (⟨"com/example/bundlewright/bundlewright/Pseudocosts", "perUnit", "(II)D"⟩ : MethodName)) (z := (⟨"com/example/bundlewright/bundlewright/Pseudocosts", "perUnit", "(II)D"⟩ : MethodName)) hown (mvT hZ (hw _ (List.mem_of_getElem? (i := 23) rfl))) (mvT hZ (hw _ (List.mem_of_getElem? (i := 24) rfl))) (notFace_of_selects (args := #[]) (mvT hZ (hw _ (List.mem_of_getElem? (i := 26) rfl)))) (mvT hZ (hw _ (List.mem_of_getElem? (i := 26) rfl))) (mvT hZ (hw _ (List.mem_of_getElem? (i := 25) rfl))) (by decide) (backOf (W := 0) (rm9 l Z a0 hw [] a tA oA sA x0 x1 cA y0 y1 qb qd S h5 n0 Z5 P5 hB hD hS) hZ (hw _ (List.mem_of_getElem? (i := 27) rfl)) (hw _ (List.mem_of_getElem? (i := 2) rfl)) (by decide) (by decide)) q9a q9c (g := (mkF m 269 #[.val (.int cc), .val (.long r1), .second, .val (.long r2), .second, .val (.long r3), .second, .val (.int k), .val (.int qb), .val (.int qd), .val (.ref a), .val (.double (own_sum S qd qb)), .second, .val (.double (own_tot S qd)), .second, .val (.int (own_cnt S qd qb)), .val (.int (own_obs S qd)), .val (.double (own_per (own_cnt S qd qb) (own_sum S qd qb) (own_obs S qd) (own_tot S qd))), .second] [(.int qd), (.int qb), (.ref a)])) rfl (by rw [hml]; rfl) (Steps.refl _) (argsL := [(.int qb), (.int qd)]) (rest := []) (lenOf (show parseMethodDescriptor "(II)D" = some ⟨[.int, .int], (some .double)⟩ from by decide +kernel) rfl) rfl (by show 2 * 0 + _ ≤ _; exact Nat.le_of_eq rfl) (hb hby at_269) (fun _ _ => ⟨rfl, e8, (by decide : 0 + 1 + 8 + 0 ≤ _), (by decide : 0 + 4 + 20 + 0 ≤ _)⟩)
  dsimp only [Pt.U, Pt.locs, Pt.cells, Pt.slots] at X9 l9 y9 z9 st9 hQ9
  subst l9 y9 z9
  obtain ⟨rfl, N9q, e9⟩ := hQ9
  have N9 := Fr.app N8 N9q
  obtain ⟨fs, hr, hrun, hended, hW, hsame⟩ := X9.leave (v := some (.int (1 : Int32))) (fun h => by rw [Bd.returns] at h; cases h)
  refine ⟨_, _, castTop (ef_0 m cc r1 r2 r3) ?_, hrun, hended, _, _, rfl, ?_, ⟨_, rfl⟩, hW, hsame.mono (by decide) (by decide)⟩
  · refine stq _ ?_
    show Steps p.tables e below (s₁.setTop (mkF m 21 #[.val (.int cc), .val (.long r1), .second, .val (.long r2), .second, .val (.long r3), .second, .val (.int k), .val (.int qb), .val (.int qd), .unset, .unset, .unset, .unset, .unset, .unset, .unset, .unset, .unset] [])) _
    refine st1 _ ?_
    show Steps p.tables e below (T1.setTop (mkF m 24 #[.val (.int cc), .val (.long r1), .second, .val (.long r2), .second, .val (.long r3), .second, .val (.int k), .val (.int qb), .val (.int qd), .unset, .unset, .unset, .unset, .unset, .unset, .unset, .unset, .unset] [(.ref a)])) _
    refine XS.dup X1.here hx rfl (hb hby at_24) rfl rfl ?_
    show Steps p.tables e below (T1.setTop (mkF m 25 #[.val (.int cc), .val (.long r1), .second, .val (.long r2), .second, .val (.long r3), .second, .val (.int k), .val (.int qb), .val (.int qd), .unset, .unset, .unset, .unset, .unset, .unset, .unset, .unset, .unset] [(.ref a), (.ref a)])) _
    refine XS.iconst X1.here hx rfl (hb hby at_25) ?_
    show Steps p.tables e below (T1.setTop (mkF m 26 #[.val (.int cc), .val (.long r1), .second, .val (.long r2), .second, .val (.long r3), .second, .val (.int k), .val (.int qb), .val (.int qd), .unset, .unset, .unset, .unset, .unset, .unset, .unset, .unset, .unset] [(.int (3 : Int32)), (.ref a), (.ref a)])) _
    refine st2.trans ?_
    show Steps p.tables e below (T2.setTop (mkF m 29 #[.val (.int cc), .val (.long r1), .second, .val (.long r2), .second, .val (.long r3), .second, .val (.int k), .val (.int qb), .val (.int qd), .unset, .unset, .unset, .unset, .unset, .unset, .unset, .unset, .unset] [(.ref a)])) _
    refine XS.astore X2.here hx rfl (hb hby at_29) rfl rfl (l' := #[.val (.int cc), .val (.long r1), .second, .val (.long r2), .second, .val (.long r3), .second, .val (.int k), .val (.int qb), .val (.int qd), .val (.ref a), .unset, .unset, .unset, .unset, .unset, .unset, .unset, .unset]) rfl ?_
    refine st3 _ ?_
    refine st4 _ ?_
    refine st5 _ ?_
    show Steps p.tables e below (T5.setTop (mkF m 68 #[.val (.int cc), .val (.long r1), .second, .val (.long r2), .second, .val (.long r3), .second, .val (.int k), .val (.int qb), .val (.int qd), .val (.ref a), .unset, .unset, .unset, .unset, .unset, .unset, .unset, .unset] [])) _
    refine XS.dconst0 X5.here hx rfl (hb hby at_68) rfl ?_
    show Steps p.tables e below (T5.setTop (mkF m 69 #[.val (.int cc), .val (.long r1), .second, .val (.long r2), .second, .val (.long r3), .second, .val (.int k), .val (.int qb), .val (.int qd), .val (.ref a), .unset, .unset, .unset, .unset, .unset, .unset, .unset, .unset] [(.double FP.dconst0)])) _
    refine XS.dstore X5.here hx rfl (hb hby at_69) rfl (l' := #[.val (.int cc), .val (.long r1), .second, .val (.long r2), .second, .val (.long r3), .second, .val (.int k), .val (.int qb), .val (.int qd), .val (.ref a), .val (.double FP.dconst0), .second, .unset, .unset, .unset, .unset, .unset, .unset]) rfl ?_
    show Steps p.tables e below (T5.setTop (mkF m 71 #[.val (.int cc), .val (.long r1), .second, .val (.long r2), .second, .val (.long r3), .second, .val (.int k), .val (.int qb), .val (.int qd), .val (.ref a), .val (.double FP.dconst0), .second, .unset, .unset, .unset, .unset, .unset, .unset] [])) _
    refine XS.dconst0 X5.here hx rfl (hb hby at_71) rfl ?_
    show Steps p.tables e below (T5.setTop (mkF m 72 #[.val (.int cc), .val (.long r1), .second, .val (.long r2), .second, .val (.long r3), .second, .val (.int k), .val (.int qb), .val (.int qd), .val (.ref a), .val (.double FP.dconst0), .second, .unset, .unset, .unset, .unset, .unset, .unset] [(.double FP.dconst0)])) _
    refine XS.dstore X5.here hx rfl (hb hby at_72) rfl (l' := #[.val (.int cc), .val (.long r1), .second, .val (.long r2), .second, .val (.long r3), .second, .val (.int k), .val (.int qb), .val (.int qd), .val (.ref a), .val (.double FP.dconst0), .second, .val (.double FP.dconst0), .second, .unset, .unset, .unset, .unset]) rfl ?_
    show Steps p.tables e below (T5.setTop (mkF m 74 #[.val (.int cc), .val (.long r1), .second, .val (.long r2), .second, .val (.long r3), .second, .val (.int k), .val (.int qb), .val (.int qd), .val (.ref a), .val (.double FP.dconst0), .second, .val (.double FP.dconst0), .second, .unset, .unset, .unset, .unset] [])) _
    refine XS.iconst X5.here hx rfl (hb hby at_74) ?_
    show Steps p.tables e below (T5.setTop (mkF m 75 #[.val (.int cc), .val (.long r1), .second, .val (.long r2), .second, .val (.long r3), .second, .val (.int k), .val (.int qb), .val (.int qd), .val (.ref a), .val (.double FP.dconst0), .second, .val (.double FP.dconst0), .second, .unset, .unset, .unset, .unset] [(.int (0 : Int32))])) _
    refine XS.istore X5.here hx rfl (hb hby at_75) rfl (l' := #[.val (.int cc), .val (.long r1), .second, .val (.long r2), .second, .val (.long r3), .second, .val (.int k), .val (.int qb), .val (.int qd), .val (.ref a), .val (.double FP.dconst0), .second, .val (.double FP.dconst0), .second, .val (.int (0 : Int32)), .unset, .unset, .unset]) rfl ?_
    show Steps p.tables e below (T5.setTop (mkF m 77 #[.val (.int cc), .val (.long r1), .second, .val (.long r2), .second, .val (.long r3), .second, .val (.int k), .val (.int qb), .val (.int qd), .val (.ref a), .val (.double FP.dconst0), .second, .val (.double FP.dconst0), .second, .val (.int (0 : Int32)), .unset, .unset, .unset] [])) _
    refine XS.iconst X5.here hx rfl (hb hby at_77) ?_
    show Steps p.tables e below (T5.setTop (mkF m 78 #[.val (.int cc), .val (.long r1), .second, .val (.long r2), .second, .val (.long r3), .second, .val (.int k), .val (.int qb), .val (.int qd), .val (.ref a), .val (.double FP.dconst0), .second, .val (.double FP.dconst0), .second, .val (.int (0 : Int32)), .unset, .unset, .unset] [(.int (0 : Int32))])) _
    refine XS.istore X5.here hx rfl (hb hby at_78) rfl (l' := #[.val (.int cc), .val (.long r1), .second, .val (.long r2), .second, .val (.long r3), .second, .val (.int k), .val (.int qb), .val (.int qd), .val (.ref a), .val (.double FP.dconst0), .second, .val (.double FP.dconst0), .second, .val (.int (0 : Int32)), .val (.int (0 : Int32)), .unset, .unset]) rfl ?_
    show Steps p.tables e below (T5.setTop (mkF m 80 #[.val (.int cc), .val (.long r1), .second, .val (.long r2), .second, .val (.long r3), .second, .val (.int k), .val (.int qb), .val (.int qd), .val (.ref a), .val (.double (own_sum [] qd qb)), .second, .val (.double (own_tot [] qd)), .second, .val (.int (own_cnt [] qd qb)), .val (.int (own_obs [] qd)), .unset, .unset] [])) _
    refine st6 _ ?_
    refine st7 _ ?_
    refine st8 _ ?_
    refine own_ex cc r1 r2 r3 k qb qd a (own_sum S qd qb) (own_tot S qd) (own_cnt S qd qb) (own_obs S qd) X8 hx hby nsm ntt _ ?_
    show Steps p.tables e below (T8.setTop (mkF m 263 #[.val (.int cc), .val (.long r1), .second, .val (.long r2), .second, .val (.long r3), .second, .val (.int k), .val (.int qb), .val (.int qd), .val (.ref a), .val (.double (own_sum S qd qb)), .second, .val (.double (own_tot S qd)), .second, .val (.int (own_cnt S qd qb)), .val (.int (own_obs S qd)), .val (.double (own_per (own_cnt S qd qb) (own_sum S qd qb) (own_obs S qd) (own_tot S qd))), .second] [])) _
    refine XS.aload X8.here hx rfl (hb hby at_263) rfl rfl ?_
    show Steps p.tables e below (T8.setTop (mkF m 265 #[.val (.int cc), .val (.long r1), .second, .val (.long r2), .second, .val (.long r3), .second, .val (.int k), .val (.int qb), .val (.int qd), .val (.ref a), .val (.double (own_sum S qd qb)), .second, .val (.double (own_tot S qd)), .second, .val (.int (own_cnt S qd qb)), .val (.int (own_obs S qd)), .val (.double (own_per (own_cnt S qd qb) (own_sum S qd qb) (own_obs S qd) (own_tot S qd))), .second] [(.ref a)])) _
    refine XS.iload X8.here hx rfl (hb hby at_265) rfl ?_
    show Steps p.tables e below (T8.setTop (mkF m 267 #[.val (.int cc), .val (.long r1), .second, .val (.long r2), .second, .val (.long r3), .second, .val (.int k), .val (.int qb), .val (.int qd), .val (.ref a), .val (.double (own_sum S qd qb)), .second, .val (.double (own_tot S qd)), .second, .val (.int (own_cnt S qd qb)), .val (.int (own_obs S qd)), .val (.double (own_per (own_cnt S qd qb) (own_sum S qd qb) (own_obs S qd) (own_tot S qd))), .second] [(.int qb), (.ref a)])) _
    refine XS.iload X8.here hx rfl (hb hby at_267) rfl ?_
    show Steps p.tables e below (T8.setTop (mkF m 269 #[.val (.int cc), .val (.long r1), .second, .val (.long r2), .second, .val (.long r3), .second, .val (.int k), .val (.int qb), .val (.int qd), .val (.ref a), .val (.double (own_sum S qd qb)), .second, .val (.double (own_tot S qd)), .second, .val (.int (own_cnt S qd qb)), .val (.int (own_obs S qd)), .val (.double (own_per (own_cnt S qd qb) (own_sum S qd qb) (own_obs S qd) (own_tot S qd))), .second] [(.int qd), (.int qb), (.ref a)])) _
    refine st9.trans ?_
    show Steps p.tables e below (T9.setTop (mkF m 272 #[.val (.int cc), .val (.long r1), .second, .val (.long r2), .second, .val (.long r3), .second, .val (.int k), .val (.int qb), .val (.int qd), .val (.ref a), .val (.double (own_sum S qd qb)), .second, .val (.double (own_tot S qd)), .second, .val (.int (own_cnt S qd qb)), .val (.int (own_obs S qd)), .val (.double (own_per (own_cnt S qd qb) (own_sum S qd qb) (own_obs S qd) (own_tot S qd))), .second] [(.double (own_per (own_cnt S qd qb) (own_sum S qd qb) (own_obs S qd) (own_tot S qd)))])) _
    refine XS.dload X9.here hx rfl (hb hby at_272) rfl ?_
    show Steps p.tables e below (T9.setTop (mkF m 274 #[.val (.int cc), .val (.long r1), .second, .val (.long r2), .second, .val (.long r3), .second, .val (.int k), .val (.int qb), .val (.int qd), .val (.ref a), .val (.double (own_sum S qd qb)), .second, .val (.double (own_tot S qd)), .second, .val (.int (own_cnt S qd qb)), .val (.int (own_obs S qd)), .val (.double (own_per (own_cnt S qd qb) (own_sum S qd qb) (own_obs S qd) (own_tot S qd))), .second] [(.double (own_per (own_cnt S qd qb) (own_sum S qd qb) (own_obs S qd) (own_tot S qd))), (.double (own_per (own_cnt S qd qb) (own_sum S qd qb) (own_obs S qd) (own_tot S qd)))])) _
    refine XS.dcmpS X9.here hx rfl (hb hby at_274) rfl (dcmpV_self (own_per_nn nsm ntt) .l) ?_
    show Steps p.tables e below (T9.setTop (mkF m 275 #[.val (.int cc), .val (.long r1), .second, .val (.long r2), .second, .val (.long r3), .second, .val (.int k), .val (.int qb), .val (.int qd), .val (.ref a), .val (.double (own_sum S qd qb)), .second, .val (.double (own_tot S qd)), .second, .val (.int (own_cnt S qd qb)), .val (.int (own_obs S qd)), .val (.double (own_per (own_cnt S qd qb) (own_sum S qd qb) (own_obs S qd) (own_tot S qd))), .second] [(.int (0 : Int32))])) _
    refine XS.ifNo X9.here hx rfl (hb hby at_275) rfl ((if0 _ _).trans (teq (rfl : (0 : Int32) = (0 : Int32))).2) ?_
    show Steps p.tables e below (T9.setTop (mkF m 278 #[.val (.int cc), .val (.long r1), .second, .val (.long r2), .second, .val (.long r3), .second, .val (.int k), .val (.int qb), .val (.int qd), .val (.ref a), .val (.double (own_sum S qd qb)), .second, .val (.double (own_tot S qd)), .second, .val (.int (own_cnt S qd qb)), .val (.int (own_obs S qd)), .val (.double (own_per (own_cnt S qd qb) (own_sum S qd qb) (own_obs S qd) (own_tot S qd))), .second] [])) _
    refine XS.iconst X9.here hx rfl (hb hby at_278) ?_
    show Steps p.tables e below (T9.setTop (mkF m 279 #[.val (.int cc), .val (.long r1), .second, .val (.long r2), .second, .val (.long r3), .second, .val (.int k), .val (.int qb), .val (.int qd), .val (.ref a), .val (.double (own_sum S qd qb)), .second, .val (.double (own_tot S qd)), .second, .val (.int (own_cnt S qd qb)), .val (.int (own_obs S qd)), .val (.double (own_per (own_cnt S qd qb) (own_sum S qd qb) (own_obs S qd) (own_tot S qd))), .second] [(.int (1 : Int32))])) _
    refine XS.goto X9.here hx rfl (pc0 := 279) (pc' := 283) rfl (hb hby at_279) (by decide) (by decide) ?_
    show Steps p.tables e below (T9.setTop (mkF m 283 #[.val (.int cc), .val (.long r1), .second, .val (.long r2), .second, .val (.long r3), .second, .val (.int k), .val (.int qb), .val (.int qd), .val (.ref a), .val (.double (own_sum S qd qb)), .second, .val (.double (own_tot S qd)), .second, .val (.int (own_cnt S qd qb)), .val (.int (own_obs S qd)), .val (.double (own_per (own_cnt S qd qb) (own_sum S qd qb) (own_obs S qd) (own_tot S qd))), .second] [(.int (1 : Int32))])) _
    exact retN X9 hx (t := .boolean) Bd.returns (by simp) (hb hby at_283) hr
  · exact ⟨rfl, N9⟩
set_option maxRecDepth 65536 in
set_option maxHeartbeats 40000000 in
theorem comes_1 {Post : Tables → Env → Array Value → State → Outcome → State → Prop} (hpost : ∀ tb e args s v u, (limb_1_1.after args s (.returned v) u = true ∧ limb_1_2.after args s (.returned v) u = true ∧ True) → FrameEnd s (.returned v) u (Jvm.fieldLocs frame_1_writes args s ++ Jvm.arrayLocs frame_1_arrays args s ++ Jvm.staticLocs frame_1_statics s) 32 128 → Post tb e args s (.returned v) u) :
    ArmFor flags0 classFile x code maxLocals ret World_1 tables_1 room_1 Calls_1 rest_1 Pre_1 Post := by
  intro l hfl _ _ p e ha hc hk s m args below hf hA hF happ hP
  obtain ⟨hcalls, hrest, hpre⟩ := hP
  obtain ⟨-, -, -, hnamed, -, -, -, hat⟩ := (Spec.applies_iff hf).mp happ
  obtain ⟨hg, hn⟩ := and_e (Cond.before_iff.mp (show (Jvm.Cond.and given_1 narrow_1).before args s = true from hpre))
  obtain ⟨gc, gr0⟩ := and_e hg
  obtain ⟨gv0, gr1⟩ := and_e gr0
  obtain ⟨gv1, gr2⟩ := and_e gr1
  obtain ⟨gv2, gr3⟩ := and_e gr2
  obtain ⟨w0, w1, w2, w3, rfl⟩ : ∃ w0 w1 w2 w3 : Value, args = #[w0, w1, w2, w3] := by
    have hs : args.size = 4 := by simpa [Cond.value, given_1] using gc
    obtain ⟨L⟩ := args
    match L, hs with
    | [w0, w1, w2, w3], _ => exact ⟨w0, w1, w2, w3, rfl⟩
  have hw := fun d (hd : d ∈ tables_1) => atoms_spec (ws := Jvm.Cond.code x code maxLocals ret :: tables_1) hat d (List.mem_cons_of_mem _ hd)
  have hfit : Fit s := fun {y c} hc i hi => by
    obtain ⟨ha, rfl⟩ := Array.getElem?_eq_some_iff.mp hc
    have q := List.all_eq_true.mp ((Array.all_eq_true_iff_forall_mem.mp hF) _ (Array.getElem_mem ha)) i (List.mem_range.mpr hi)
    simpa [Array.getElem?_eq_getElem hi] using q
  obtain ⟨i0, ei0⟩ := is_v gv0
  obtain rfl : w0 = (.int i0) := Option.some.inj ei0
  obtain ⟨i1, ei1⟩ := isL_v gv1
  obtain rfl : w1 = (.long i1) := Option.some.inj ei1
  obtain ⟨i2, ei2⟩ := isL_v gv2
  obtain rfl : w2 = (.long i2) := Option.some.inj ei2
  obtain ⟨i3, ei3⟩ := isL_v gr3
  obtain rfl : w3 = (.long i3) := Option.some.inj ei3
  obtain ⟨n, o, h1, h2, h3, _, L, rfl, ⟨rfl, N⟩, hq⟩ := rm0 l s _ hw tables_1 i0 i1 i2 i3 s.heap s.heap.size (Nat.le_refl _)  p e ha hc hk s m _ below hf ((Spec.applies_iff_loose hf).mp happ).1 ⟨rfl, State.Warmed39.refl s, rfl⟩ trivial
  refine ⟨n, _, h1, h2, h3, hpost _ _ _ _ _ _ ⟨Cond.after_iff.mpr rfl, Cond.after_iff.mpr (eq_i res_at (Term.int_eval (1)) rfl), trivial⟩ ⟨hq.1, hq.2.1, (hq.2.2.sift fun y hy => Or.inr (N y hy)).mono (by decide) (by decide)⟩⟩
theorem main_1_1 : Claimed_1_1 := comes_1 fun _ _ _ _ _ _ h hF => ⟨h.1, hF⟩
theorem main_1_2 : Claimed_1_2 := comes_1 fun _ _ _ _ _ _ h hF => ⟨h.2.1, hF⟩
end Jvm.Pilot.@@N@@
namespace Jvm.Pilot.@@N@@
open Jvm Jvm.ClassFile Sem Op Lib Jvm.Free Jvm.Stand Jvm.Pilot.@@N@@.Jvm.D
/-! MADE BY PROGRAM (witnessworld.py) out of the Statement's table words and the real class files: 10 classes; the members and pool entries that the words name. The judged class is class 1, her method 1. -/
namespace start1
open Jvm.ClassFile
def u (s : String) : CpInfo := .utf8 (stringToUtf16 s)
/-- a pool by its gaps: so many unusable entries, then the entry; so many at the end -/
def gap : Nat → List CpInfo → List CpInfo
  | 0, r => r
  | n + 1, r => .unusable :: gap n r
def poolList (es : List (Nat × CpInfo)) (last : Nat) : List CpInfo := es.foldr (fun e r => gap e.1 (e.2 :: r)) (gap last [])
def pool (es : List (Nat × CpInfo)) (last : Nat) : Array CpInfo := ⟨poolList es last⟩
def fileOf (pool : Array CpInfo) (this : Nat) (attrs : Array Attribute := #[]) (ms : Array MethodInfo := #[]) (fl : Nat := 33) (sup : Nat := 0) (ifs : Array Nat := #[]) (fds : Array FieldInfo := #[]) : ClassFile where
  minorVersion := 0
  majorVersion := 65
  constantPool := pool
  accessFlags := fl
  thisClass := this
  superClass := sup
  interfaces := ifs
  fields := fds
  methods := ms
  attributes := attrs
def plain (name : String) (sup : Option ClassId) : Class where
  name := name
  kind := .ordinary
  loader := none
  accessFlags := 33
  super := sup
  interfaces := #[]
  cf := none
  fields := #[]
  methods := #[]
  instanceTypes := #[]
  staticTypes := #[]
  resolved := #[]
  callSites := []
  init := .initialized
  statics := none
  mirror := none

def pool0 : Array CpInfo := pool [(5, u "<init>"), (0, u "()V"), (1, .class_ 10), (1, u "java/lang/Object")] 113

def k0c0 : Code := { maxStack := 0, maxLocals := 1, code := object_method_1_code, exceptionTable := #[], attributes := #[] }
def k0m0 : Method := { name := "<init>", desc := "()V", sig := { parameters := [], returnType := none }, accessFlags := 1, code := some k0c0 }
/-- java/lang/Object -/
def k0 : Class := { plain "java/lang/Object" none with
  accessFlags := 33
  interfaces := #[]
  cf := some (fileOf pool0 8 #[] #[{ accessFlags := 1, nameIndex := 5, descriptorIndex := 6, attributes := #[] }] 33 0 #[] #[])
  fields := #[]
  methods := #[k0m0]
  instanceTypes := #[]
  staticTypes := #[]
  resolved := Array.replicate 124 none
  statics := none }

def pool1 : Array CpInfo := pool [(2, .class_ 4), (1, u "java/lang/Object"), (0, u "<init>"), (0, u "()V"), (0, .class_ 8), (0, u "com/example/bundlewright/bundlewright/Pseudocosts"), (0, .methodref 7 10), (0, .nameAndType 5 11), (0, u "(I)V"), (0, .methodref 13 14), (0, .class_ 15), (0, .nameAndType 16 17), (0, u "com/example/bundlewright/bundlewright/PseudocostsPerUnitPinLaw"), (0, u "rec"), (0, u "(Lcom/example/bundlewright/bundlewright/Pseudocosts;J)V"), (0, .methodref 13 19), (0, .nameAndType 20 21), (0, u "dir"), (0, u "(J)I"), (0, .methodref 13 23), (0, .nameAndType 24 25), (0, u "val"), (0, u "(J)D"), (0, .methodref 13 27), (0, .nameAndType 28 21), (0, u "bid"), (0, .methodref 7 30), (0, .nameAndType 31 32), (0, u "perUnit"), (0, u "(II)D"), (0, .long 3), (1, .methodref 13 36), (0, .nameAndType 37 21), (0, u "fall"), (0, .methodref 13 39), (0, .nameAndType 40 25), (0, u "dist"), (0, .methodref 7 42), (0, .nameAndType 43 44), (0, u "record"), (0, u "(IIDD)V"), (2, u "law"), (0, u "(IJJJ)Z")] 3

def k1m0 : Method := { name := "<init>", desc := "()V", sig := { parameters := [], returnType := none }, accessFlags := 1, code := none }
def k1c1 : Code := { maxStack := 4, maxLocals := 19, code := code, exceptionTable := #[], attributes := #[] }
def k1m1 : Method := { name := "law", desc := "(IJJJ)Z", sig := { parameters := [.int, .long, .long, .long], returnType := some .boolean }, accessFlags := 9, code := some k1c1 }
def k1c2 : Code := { maxStack := 4, maxLocals := 2, code := method_3_code, exceptionTable := #[], attributes := #[] }
def k1m2 : Method := { name := "bid", desc := "(J)I", sig := { parameters := [.long], returnType := some .int }, accessFlags := 10, code := some k1c2 }
def k1c3 : Code := { maxStack := 4, maxLocals := 2, code := method_4_code, exceptionTable := #[], attributes := #[] }
def k1m3 : Method := { name := "dir", desc := "(J)I", sig := { parameters := [.long], returnType := some .int }, accessFlags := 10, code := some k1c3 }
def k1c4 : Code := { maxStack := 5, maxLocals := 2, code := method_5_code, exceptionTable := #[], attributes := #[] }
def k1m4 : Method := { name := "dist", desc := "(J)D", sig := { parameters := [.long], returnType := some .double }, accessFlags := 10, code := some k1c4 }
def k1c5 : Code := { maxStack := 3, maxLocals := 2, code := method_6_code, exceptionTable := #[], attributes := #[] }
def k1m5 : Method := { name := "fall", desc := "(J)I", sig := { parameters := [.long], returnType := some .int }, accessFlags := 10, code := some k1c5 }
def k1c6 : Code := { maxStack := 4, maxLocals := 5, code := method_7_code, exceptionTable := #[], attributes := #[] }
def k1m6 : Method := { name := "val", desc := "(J)D", sig := { parameters := [.long], returnType := some .double }, accessFlags := 10, code := some k1c6 }
def k1c7 : Code := { maxStack := 7, maxLocals := 3, code := method_8_code, exceptionTable := #[], attributes := #[] }
def k1m7 : Method := { name := "rec", desc := "(Lcom/example/bundlewright/bundlewright/Pseudocosts;J)V", sig := { parameters := [(.object "com/example/bundlewright/bundlewright/Pseudocosts"), .long], returnType := none }, accessFlags := 10, code := some k1c7 }
/-- com/example/bundlewright/bundlewright/PseudocostsPerUnitPinLaw -/
def k1 : Class := { plain "com/example/bundlewright/bundlewright/PseudocostsPerUnitPinLaw" (some 0) with
  accessFlags := 49
  interfaces := #[]
  cf := some (fileOf pool1 13 #[] #[{ accessFlags := 1, nameIndex := 5, descriptorIndex := 6, attributes := #[] }, { accessFlags := 9, nameIndex := 47, descriptorIndex := 48, attributes := #[] }, { accessFlags := 10, nameIndex := 28, descriptorIndex := 21, attributes := #[] }, { accessFlags := 10, nameIndex := 20, descriptorIndex := 21, attributes := #[] }, { accessFlags := 10, nameIndex := 40, descriptorIndex := 25, attributes := #[] }, { accessFlags := 10, nameIndex := 37, descriptorIndex := 21, attributes := #[] }, { accessFlags := 10, nameIndex := 24, descriptorIndex := 25, attributes := #[] }, { accessFlags := 10, nameIndex := 16, descriptorIndex := 17, attributes := #[] }] 49 2 #[] #[])
  fields := #[]
  methods := #[k1m0, k1m1, k1m2, k1m3, k1m4, k1m5, k1m6, k1m7]
  instanceTypes := #[]
  staticTypes := #[]
  resolved := Array.replicate 52 none
  statics := none }

def pool2 : Array CpInfo := pool [(1, .methodref 2 3), (0, .class_ 4), (0, .nameAndType 5 6), (0, u "java/lang/Object"), (0, u "<init>"), (0, u "()V"), (0, .fieldref 8 9), (0, .class_ 10), (0, .nameAndType 11 12), (0, u "com/example/bundlewright/bundlewright/Pseudocosts"), (0, u "total"), (0, u "[D"), (0, .fieldref 8 14), (0, .nameAndType 15 16), (0, u "observations"), (0, u "[I"), (0, .class_ 18), (0, u "[[D"), (0, .fieldref 8 20), (0, .nameAndType 21 18), (0, u "sum"), (0, .class_ 23), (0, u "[[I"), (0, .fieldref 8 25), (0, .nameAndType 26 23), (0, u "count"), (0, .methodref 28 29), (0, .class_ 30), (0, .nameAndType 31 32), (0, u "java/lang/Math"), (0, u "max"), (0, u "(DD)D"), (0, u "DOWN"), (0, u "I"), (2, u "UP"), (1, u "(I)V"), (2, u "record"), (0, u "(IIDD)V"), (1, u "perUnit"), (0, u "(II)D")] 3

def k2c0 : Code := { maxStack := 3, maxLocals := 2, code := prog_75_method_1_code, exceptionTable := #[], attributes := #[] }
def k2m0 : Method := { name := "<init>", desc := "(I)V", sig := { parameters := [.int], returnType := none }, accessFlags := 0, code := some k2c0 }
def k2c1 : Code := { maxStack := 6, maxLocals := 9, code := prog_75_method_2_code, exceptionTable := #[], attributes := #[] }
def k2m1 : Method := { name := "record", desc := "(IIDD)V", sig := { parameters := [.int, .int, .double, .double], returnType := none }, accessFlags := 0, code := some k2c1 }
def k2c2 : Code := { maxStack := 4, maxLocals := 3, code := prog_75_method_4_code, exceptionTable := #[], attributes := #[] }
def k2m2 : Method := { name := "perUnit", desc := "(II)D", sig := { parameters := [.int, .int], returnType := some .double }, accessFlags := 0, code := some k2c2 }
/-- com/example/bundlewright/bundlewright/Pseudocosts -/
def k2 : Class := { plain "com/example/bundlewright/bundlewright/Pseudocosts" (some 0) with
  accessFlags := 48
  interfaces := #[]
  cf := some (fileOf pool2 8 #[] #[{ accessFlags := 0, nameIndex := 5, descriptorIndex := 39, attributes := #[] }, { accessFlags := 0, nameIndex := 42, descriptorIndex := 43, attributes := #[] }, { accessFlags := 0, nameIndex := 45, descriptorIndex := 46, attributes := #[] }] 48 2 #[] #[{ accessFlags := 24, nameIndex := 33, descriptorIndex := 34, attributes := #[] }, { accessFlags := 24, nameIndex := 37, descriptorIndex := 34, attributes := #[] }, { accessFlags := 18, nameIndex := 21, descriptorIndex := 18, attributes := #[] }, { accessFlags := 18, nameIndex := 26, descriptorIndex := 23, attributes := #[] }, { accessFlags := 18, nameIndex := 11, descriptorIndex := 12, attributes := #[] }, { accessFlags := 18, nameIndex := 15, descriptorIndex := 16, attributes := #[] }])
  fields := #[{ name := "DOWN", type := .int, accessFlags := 24, slot := 0, constantValue := 0 }, { name := "UP", type := .int, accessFlags := 24, slot := 1, constantValue := 0 }, { name := "sum", type := (.array (.array .double)), accessFlags := 18, slot := 0, constantValue := 0 }, { name := "count", type := (.array (.array .int)), accessFlags := 18, slot := 1, constantValue := 0 }, { name := "total", type := (.array .double), accessFlags := 18, slot := 2, constantValue := 0 }, { name := "observations", type := (.array .int), accessFlags := 18, slot := 3, constantValue := 0 }]
  methods := #[k2m0, k2m1, k2m2]
  instanceTypes := #[(.array (.array .double)), (.array (.array .int)), (.array .double), (.array .int)]
  staticTypes := #[.int, .int]
  resolved := Array.replicate 50 none
  statics := none }

def pool3 : Array CpInfo := pool [(1, .class_ 2), (0, u "java/lang/Math"), (1, .class_ 6), (1, u "java/lang/Object"), (0, u "<init>"), (0, u "()V"), (43, u "(DD)D"), (45, .class_ 100), (1, u "java/lang/Math$RandomNumberGeneratorHolder"), (71, u "negativeZeroFloatBits"), (0, u "J"), (2, u "negativeZeroDoubleBits"), (21, u "max"), (46, u "$assertionsDisabled"), (0, u "Z"), (91, u "twoToTheDoubleScaleDown"), (0, u "D"), (4, u "twoToTheDoubleScaleUp"), (9, u "E"), (3, u "PI"), (2, u "TAU"), (2, u "DEGREES_TO_RADIANS"), (0, u "RADIANS_TO_DEGREES")] 94

def k3m0 : Method := { name := "<init>", desc := "()V", sig := { parameters := [], returnType := none }, accessFlags := 2, code := none }
def k3c1 : Code := { maxStack := 4, maxLocals := 4, code := jdk_29_method_68_code, exceptionTable := #[], attributes := #[] }
def k3m1 : Method := { name := "max", desc := "(DD)D", sig := { parameters := [.double, .double], returnType := some .double }, accessFlags := 9, code := some k3c1 }
/-- java/lang/Math -/
def k3 : Class := { plain "java/lang/Math" (some 0) with
  accessFlags := 49
  interfaces := #[]
  cf := some (fileOf pool3 1 #[.nestMembers #[98]] #[{ accessFlags := 2, nameIndex := 7, descriptorIndex := 8, attributes := #[] }, { accessFlags := 9, nameIndex := 198, descriptorIndex := 52, attributes := #[] }] 49 4 #[] #[{ accessFlags := 25, nameIndex := 354, descriptorIndex := 339, attributes := #[] }, { accessFlags := 25, nameIndex := 358, descriptorIndex := 339, attributes := #[] }, { accessFlags := 25, nameIndex := 361, descriptorIndex := 339, attributes := #[] }, { accessFlags := 26, nameIndex := 364, descriptorIndex := 339, attributes := #[] }, { accessFlags := 26, nameIndex := 365, descriptorIndex := 339, attributes := #[] }, { accessFlags := 26, nameIndex := 172, descriptorIndex := 173, attributes := #[] }, { accessFlags := 26, nameIndex := 176, descriptorIndex := 173, attributes := #[] }, { accessFlags := 8, nameIndex := 344, descriptorIndex := 339, attributes := #[] }, { accessFlags := 8, nameIndex := 338, descriptorIndex := 339, attributes := #[] }, { accessFlags := 4120, nameIndex := 245, descriptorIndex := 246, attributes := #[] }])
  fields := #[{ name := "E", type := .double, accessFlags := 25, slot := 0, constantValue := 0 }, { name := "PI", type := .double, accessFlags := 25, slot := 1, constantValue := 0 }, { name := "TAU", type := .double, accessFlags := 25, slot := 2, constantValue := 0 }, { name := "DEGREES_TO_RADIANS", type := .double, accessFlags := 26, slot := 3, constantValue := 0 }, { name := "RADIANS_TO_DEGREES", type := .double, accessFlags := 26, slot := 4, constantValue := 0 }, { name := "negativeZeroFloatBits", type := .long, accessFlags := 26, slot := 5, constantValue := 0 }, { name := "negativeZeroDoubleBits", type := .long, accessFlags := 26, slot := 6, constantValue := 0 }, { name := "twoToTheDoubleScaleUp", type := .double, accessFlags := 8, slot := 7, constantValue := 0 }, { name := "twoToTheDoubleScaleDown", type := .double, accessFlags := 8, slot := 8, constantValue := 0 }, { name := "$assertionsDisabled", type := .boolean, accessFlags := 4120, slot := 9, constantValue := 0 }]
  methods := #[k3m0, k3m1]
  instanceTypes := #[]
  staticTypes := #[.double, .double, .double, .double, .double, .long, .long, .double, .double, .boolean]
  resolved := Array.replicate 460 none
  statics := none }

def pool4 : Array CpInfo := pool [(1, u "java/lang/Cloneable"), (0, .class_ 1), (0, u "java/lang/Object"), (0, .class_ 3)] 3

/-- java/lang/Cloneable -/
def k4 : Class := { plain "java/lang/Cloneable" (some 0) with
  accessFlags := 1537
  interfaces := #[]
  cf := some (fileOf pool4 2 #[] #[] 1537 4 #[] #[])
  fields := #[]
  methods := #[]
  instanceTypes := #[]
  staticTypes := #[]
  resolved := Array.replicate 8 none
  statics := none }

def pool5 : Array CpInfo := pool [(1, u "java/io/Serializable"), (0, .class_ 1), (0, u "java/lang/Object"), (0, .class_ 3)] 3

/-- java/io/Serializable -/
def k5 : Class := { plain "java/io/Serializable" (some 0) with
  accessFlags := 1537
  interfaces := #[]
  cf := some (fileOf pool5 2 #[] #[] 1537 4 #[] #[])
  fields := #[]
  methods := #[]
  instanceTypes := #[]
  staticTypes := #[]
  resolved := Array.replicate 8 none
  statics := none }

/-- the primitive byte -/
def k6 : Class := { plain "byte" none with kind := .primitive 'B', accessFlags := 0x411 }
/-- [B -/
def k7 : Class := { plain "[B" (some 0) with kind := .array 6 .byte, interfaces := #[4, 5], accessFlags := 1041 }

/-- the primitive int -/
def k8 : Class := { plain "int" none with kind := .primitive 'I', accessFlags := 0x411 }
/-- [I -/
def k9 : Class := { plain "[I" (some 0) with kind := .array 8 .int, interfaces := #[4, 5], accessFlags := 1041 }

def heap : Heap := #[]
/-- the primitive double -/
def k10 : Class := { plain "double" none with kind := .primitive 'D', accessFlags := 0x411 }
/-- [D -/
def k11 : Class := { plain "[D" (some 0) with kind := .array 10 .double, interfaces := #[4, 5], accessFlags := 1041 }
/-- [[D -/
def k12 : Class := { plain "[[D" (some 0) with kind := .array 11 (.array .double), interfaces := #[4, 5], accessFlags := 1041 }
/-- [[I -/
def k13 : Class := { plain "[[I" (some 0) with kind := .array 9 (.array .int), interfaces := #[4, 5], accessFlags := 1041 }
def classes : Array Class := #[k0, k1, k2, k3, k4, k5, k6, k7, k8, k9, k10, k11, k12, k13]
def interned : List (Array UInt16 × Addr) := []
def slotsUsed : Nat := 0
def theMethod : MethodId := ⟨1, 1⟩
def args0 : Array Value := #[.int 5, .long 3, .long 7, .long 3]
def aboutOver (below : List Frame) : State where
  vm := { classes := classes, interned := interned.toArray }
  heap := heap
  slotsUsed := slotsUsed
  threads := #[{ frames := .invoking theMethod args0 :: below }]
def below0 : List Frame := [.native { method := ⟨0, 0⟩, args := #[] }]
def about1 : State := aboutOver below0
def p0 : Program := .bare "" "" ""
def e0 : Env := launch0.env 0 0 0
theorem w_frames : about1.frames = Frame.invoking theMethod args0 :: below0 := rfl
set_option maxRecDepth 65536 in
theorem w_args : argsFit about1.vm theMethod args0 = true := by decide +kernel
set_option maxRecDepth 65536 in
theorem w_heap : heapFits about1 = true := by decide +kernel
set_option maxRecDepth 65536 in
theorem w_runnable : about1.curStatus? = some .runnable := by decide +kernel
set_option maxRecDepth 65536 in
theorem w_alone : about1.alone = true := by decide +kernel
set_option maxRecDepth 65536 in
theorem w_named : about1.methodNamed? x = some theMethod := by decide +kernel
set_option maxRecDepth 65536 in
theorem w_hears : about1.hears theMethod below0 = true := by decide +kernel
set_option maxRecDepth 65536 in
theorem w_ripe : about1.ripe theMethod args0 below0 = true := by decide +kernel
theorem w_running : about1.status = .running := rfl
set_option maxRecDepth 65536 in
theorem w_room : about1.hasRoom e0.platform room_1 = true :=
  launch0.hasRoom_least _ room_1 (by decide +kernel) (by decide +kernel) (by decide +kernel) (by decide +kernel) (by decide +kernel) (by decide +kernel)
theorem allAtoms_all (ts : List Jvm.Cond) (a : Array Jvm.Value) (st : Jvm.State) : (allAtoms ts).before a st = ts.all (fun c => c.before a st) := by
  induction ts with
  | nil => rfl
  | cons c t ih =>
    show (Jvm.Cond.and c (allAtoms t)).before a st = _
    rw [Jvm.Cond.before_and, ih, List.all_cons]
def words1 : List Jvm.Cond := Jvm.Cond.code x code maxLocals ret :: tables_1
/-- a 'code' word, met by the world's own term for the bytes: nothing is compared byte by byte -/
theorem code_word {y : MethodName} {bytes : ByteArray} {mx : Nat} {rt : Option FieldType} {a : Array Value} {s : State} {m : MethodId} {meth : Method} {c : Code} (h1 : s.methodNamed? y = some m) (h2 : s.vm.method? m = some meth) (h3 : meth.code = some c) (h4 : c.code = bytes)
    (h5 : (c.maxLocals == mx && c.exceptionTable.isEmpty && decide (c.maxStack ≤ mostOperands) && decide (meth.sig.returnType = rt) && !meth.locks && decide (parseMethodDescriptor y.desc = some meth.sig)) = true) : (Jvm.Cond.code y bytes mx rt).before a s = true := by
  simp only [Bool.and_eq_true, beq_iff_eq, Bool.not_eq_true', decide_eq_true_eq] at h5
  obtain ⟨⟨⟨⟨⟨g1, g2⟩, g3⟩, g4⟩, g5⟩, g6⟩ := h5
  simp [Cond.before, Cond.holds, Cond.value, h1, h2, h3, h4, g1, g2, g3, g4, g5, g6]
def isCode : Jvm.Cond → Bool
  | .code _ _ _ _ => true
  | _ => false
theorem all_split {L : List Jvm.Cond} {P : Jvm.Cond → Bool} (h1 : L.all (fun c => isCode c || P c) = true) (h2 : ∀ c ∈ L.filter isCode, P c = true) : L.all P = true := by
  refine List.all_eq_true.mpr fun c hc => ?_
  have h := List.all_eq_true.mp h1 c hc
  rcases Bool.eq_false_or_eq_true (isCode c) with hi | hi
  · exact h2 c (List.mem_filter.mpr ⟨hc, hi⟩)
  · simpa [hi] using h
set_option maxRecDepth 65536 in
theorem w_c0 : (Jvm.Cond.code x code maxLocals ret).before args0 about1 = true := code_word (m := ⟨1, 1⟩) (meth := k1m1) (c := k1c1) (by decide +kernel) rfl rfl rfl (by decide +kernel)
set_option maxRecDepth 65536 in
theorem w_c1 : (Jvm.Cond.code ({ cls := "com/example/bundlewright/bundlewright/Pseudocosts", name := "<init>", desc := "(I)V" } : Jvm.MethodName) prog_75_method_1_code (2 : Nat) (Option.none : Option Jvm.ClassFile.FieldType)).before args0 about1 = true := code_word (m := ⟨2, 0⟩) (meth := k2m0) (c := k2c0) (by decide +kernel) rfl rfl rfl (by decide +kernel)
set_option maxRecDepth 65536 in
theorem w_c2 : (Jvm.Cond.code ({ cls := "java/lang/Object", name := "<init>", desc := "()V" } : Jvm.MethodName) object_method_1_code (1 : Nat) (Option.none : Option Jvm.ClassFile.FieldType)).before args0 about1 = true := code_word (m := ⟨0, 0⟩) (meth := k0m0) (c := k0c0) (by decide +kernel) rfl rfl rfl (by decide +kernel)
set_option maxRecDepth 65536 in
theorem w_c3 : (Jvm.Cond.code ({ cls := "com/example/bundlewright/bundlewright/Pseudocosts", name := "perUnit", desc := "(II)D" } : Jvm.MethodName) prog_75_method_4_code (3 : Nat) (Option.some Jvm.ClassFile.FieldType.double)).before args0 about1 = true := code_word (m := ⟨2, 2⟩) (meth := k2m2) (c := k2c2) (by decide +kernel) rfl rfl rfl (by decide +kernel)
set_option maxRecDepth 65536 in
theorem w_c4 : (Jvm.Cond.code ({ cls := "com/example/bundlewright/bundlewright/PseudocostsPerUnitPinLaw", name := "rec", desc := "(Lcom/example/bundlewright/bundlewright/Pseudocosts;J)V" } : Jvm.MethodName) method_8_code (3 : Nat) (Option.none : Option Jvm.ClassFile.FieldType)).before args0 about1 = true := code_word (m := ⟨1, 7⟩) (meth := k1m7) (c := k1c7) (by decide +kernel) rfl rfl rfl (by decide +kernel)
set_option maxRecDepth 65536 in
theorem w_c5 : (Jvm.Cond.code ({ cls := "com/example/bundlewright/bundlewright/PseudocostsPerUnitPinLaw", name := "bid", desc := "(J)I" } : Jvm.MethodName) method_3_code (2 : Nat) (Option.some Jvm.ClassFile.FieldType.int)).before args0 about1 = true := code_word (m := ⟨1, 2⟩) (meth := k1m2) (c := k1c2) (by decide +kernel) rfl rfl rfl (by decide +kernel)
set_option maxRecDepth 65536 in
theorem w_c6 : (Jvm.Cond.code ({ cls := "com/example/bundlewright/bundlewright/PseudocostsPerUnitPinLaw", name := "dir", desc := "(J)I" } : Jvm.MethodName) method_4_code (2 : Nat) (Option.some Jvm.ClassFile.FieldType.int)).before args0 about1 = true := code_word (m := ⟨1, 3⟩) (meth := k1m3) (c := k1c3) (by decide +kernel) rfl rfl rfl (by decide +kernel)
set_option maxRecDepth 65536 in
theorem w_c7 : (Jvm.Cond.code ({ cls := "com/example/bundlewright/bundlewright/PseudocostsPerUnitPinLaw", name := "dist", desc := "(J)D" } : Jvm.MethodName) method_5_code (2 : Nat) (Option.some Jvm.ClassFile.FieldType.double)).before args0 about1 = true := code_word (m := ⟨1, 4⟩) (meth := k1m4) (c := k1c4) (by decide +kernel) rfl rfl rfl (by decide +kernel)
set_option maxRecDepth 65536 in
theorem w_c8 : (Jvm.Cond.code ({ cls := "com/example/bundlewright/bundlewright/PseudocostsPerUnitPinLaw", name := "fall", desc := "(J)I" } : Jvm.MethodName) method_6_code (2 : Nat) (Option.some Jvm.ClassFile.FieldType.int)).before args0 about1 = true := code_word (m := ⟨1, 5⟩) (meth := k1m5) (c := k1c5) (by decide +kernel) rfl rfl rfl (by decide +kernel)
set_option maxRecDepth 65536 in
theorem w_c9 : (Jvm.Cond.code ({ cls := "com/example/bundlewright/bundlewright/Pseudocosts", name := "record", desc := "(IIDD)V" } : Jvm.MethodName) prog_75_method_2_code (9 : Nat) (Option.none : Option Jvm.ClassFile.FieldType)).before args0 about1 = true := code_word (m := ⟨2, 1⟩) (meth := k2m1) (c := k2c1) (by decide +kernel) rfl rfl rfl (by decide +kernel)
set_option maxRecDepth 65536 in
theorem w_c10 : (Jvm.Cond.code ({ cls := "java/lang/Math", name := "max", desc := "(DD)D" } : Jvm.MethodName) jdk_29_method_68_code (4 : Nat) (Option.some Jvm.ClassFile.FieldType.double)).before args0 about1 = true := code_word (m := ⟨3, 1⟩) (meth := k3m1) (c := k3c1) (by decide +kernel) rfl rfl rfl (by decide +kernel)
set_option maxRecDepth 65536 in
theorem w_c11 : (Jvm.Cond.code ({ cls := "com/example/bundlewright/bundlewright/PseudocostsPerUnitPinLaw", name := "val", desc := "(J)D" } : Jvm.MethodName) method_7_code (5 : Nat) (Option.some Jvm.ClassFile.FieldType.double)).before args0 about1 = true := code_word (m := ⟨1, 6⟩) (meth := k1m6) (c := k1c6) (by decide +kernel) rfl rfl rfl (by decide +kernel)
def codes1 : List Jvm.Cond := [Jvm.Cond.code x code maxLocals ret, Jvm.Cond.code ({ cls := "com/example/bundlewright/bundlewright/Pseudocosts", name := "<init>", desc := "(I)V" } : Jvm.MethodName) prog_75_method_1_code (2 : Nat) (Option.none : Option Jvm.ClassFile.FieldType), Jvm.Cond.code ({ cls := "java/lang/Object", name := "<init>", desc := "()V" } : Jvm.MethodName) object_method_1_code (1 : Nat) (Option.none : Option Jvm.ClassFile.FieldType), Jvm.Cond.code ({ cls := "com/example/bundlewright/bundlewright/Pseudocosts", name := "perUnit", desc := "(II)D" } : Jvm.MethodName) prog_75_method_4_code (3 : Nat) (Option.some Jvm.ClassFile.FieldType.double), Jvm.Cond.code ({ cls := "com/example/bundlewright/bundlewright/PseudocostsPerUnitPinLaw", name := "rec", desc := "(Lcom/example/bundlewright/bundlewright/Pseudocosts;J)V" } : Jvm.MethodName) method_8_code (3 : Nat) (Option.none : Option Jvm.ClassFile.FieldType), Jvm.Cond.code ({ cls := "com/example/bundlewright/bundlewright/PseudocostsPerUnitPinLaw", name := "bid", desc := "(J)I" } : Jvm.MethodName) method_3_code (2 : Nat) (Option.some Jvm.ClassFile.FieldType.int), Jvm.Cond.code ({ cls := "com/example/bundlewright/bundlewright/PseudocostsPerUnitPinLaw", name := "dir", desc := "(J)I" } : Jvm.MethodName) method_4_code (2 : Nat) (Option.some Jvm.ClassFile.FieldType.int), Jvm.Cond.code ({ cls := "com/example/bundlewright/bundlewright/PseudocostsPerUnitPinLaw", name := "dist", desc := "(J)D" } : Jvm.MethodName) method_5_code (2 : Nat) (Option.some Jvm.ClassFile.FieldType.double), Jvm.Cond.code ({ cls := "com/example/bundlewright/bundlewright/PseudocostsPerUnitPinLaw", name := "fall", desc := "(J)I" } : Jvm.MethodName) method_6_code (2 : Nat) (Option.some Jvm.ClassFile.FieldType.int), Jvm.Cond.code ({ cls := "com/example/bundlewright/bundlewright/Pseudocosts", name := "record", desc := "(IIDD)V" } : Jvm.MethodName) prog_75_method_2_code (9 : Nat) (Option.none : Option Jvm.ClassFile.FieldType), Jvm.Cond.code ({ cls := "java/lang/Math", name := "max", desc := "(DD)D" } : Jvm.MethodName) jdk_29_method_68_code (4 : Nat) (Option.some Jvm.ClassFile.FieldType.double), Jvm.Cond.code ({ cls := "com/example/bundlewright/bundlewright/PseudocostsPerUnitPinLaw", name := "val", desc := "(J)D" } : Jvm.MethodName) method_7_code (5 : Nat) (Option.some Jvm.ClassFile.FieldType.double)]
set_option maxRecDepth 65536 in
theorem codes_eq : words1.filter isCode = codes1 := rfl
theorem w_codes : ∀ c ∈ words1.filter isCode, c.before args0 about1 = true := by
  rw [codes_eq]
  intro c hc
  simp only [codes1, List.mem_cons, List.not_mem_nil, or_false] at hc
  rcases hc with rfl | rfl | rfl | rfl | rfl | rfl | rfl | rfl | rfl | rfl | rfl | rfl
  · exact w_c0
  · exact w_c1
  · exact w_c2
  · exact w_c3
  · exact w_c4
  · exact w_c5
  · exact w_c6
  · exact w_c7
  · exact w_c8
  · exact w_c9
  · exact w_c10
  · exact w_c11
set_option maxRecDepth 65536 in
theorem w_t1 : (words1.take 24).all (fun c => isCode c || c.before args0 about1) = true := by decide +kernel
set_option maxRecDepth 65536 in
theorem w_t2 : ((words1.drop 24).take 24).all (fun c => isCode c || c.before args0 about1) = true := by decide +kernel
set_option maxRecDepth 65536 in
theorem w_t3 : ((words1.drop 24).drop 24).all (fun c => isCode c || c.before args0 about1) = true := by decide +kernel
theorem w_tables : (allAtoms (Jvm.Cond.code x code maxLocals ret :: tables_1)).before args0 about1 = true := by
  rw [allAtoms_all]
  show words1.all (fun c => c.before args0 about1) = true
  refine all_split ?_ w_codes
  rw [← List.take_append_drop 24 words1, List.all_append, w_t1, ← List.take_append_drop 24 (words1.drop 24), List.all_append, w_t2, w_t3]
  rfl
set_option maxRecDepth 65536 in
theorem w_case : (Jvm.Cond.and given_1 narrow_1).before args0 about1 = true := by decide +kernel
theorem w_applies : (headSpec (Jvm.Cond.code x code maxLocals ret :: tables_1) room_1).applies x e0.platform about1 = true :=
  (Spec.applies_iff w_frames).mpr ⟨w_running, w_runnable, w_alone, w_named, w_hears, w_ripe, w_room, w_tables⟩
theorem atStart : AtStart classFile x code maxLocals ret World_1 tables_1 room_1 Calls_1 rest_1 Pre_1 launch0 p0 e0 about1 theMethod args0 below0 :=
  ⟨lists_1, trivial, launch0.admits_env _ _ _, launch0.least_env, fairChoices_fair.cas, fairChoices_fair.clock, w_frames, w_args, w_heap, w_applies, trivial, trivial, w_case⟩
end start1
theorem witness_1 : WitnessClaimed_1 := ⟨start1.p0, start1.e0, start1.about1, start1.theMethod, start1.args0, start1.below0, start1.atStart⟩
end Jvm.Pilot.@@N@@
