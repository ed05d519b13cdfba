import JvmDerived
import JvmDerived.Pilot.@@N@@Statement
import JvmDerived.Pilot.@@N@@Code
set_option linter.unusedVariables false
set_option linter.unusedSimpArgs false
@@BLOCK:LamKit.lean.txt@@
namespace Jvm.RoadKit
open Sem ClassFile Op Lib Jvm.Stand Jvm.Free Jvm.LawKit
section New
variable {p : Program} {l : Launch} {e : Env} {R : Room} {s : State} {m : MethodId} {args : Array Value} {below : List Frame} {meth : Method} {c : Code} {T : State} {locs : List Loc} {cells slots : Nat}
theorem retI (X : Stand p l e R s m args below meth c T locs cells slots) (hx : p.tables.exec = Jvm.exec) {pc : Nat} {Ls : Array Slot} {z : Int32} {rest : List Value} (hret : meth.sig.returnType = some .int) (hd : decode c.code pc = .ok (.ireturn, 1)) {fs : List Frame}
    (hl : ∀ (f : JFrame) (acts : List Action), f.method = m → f.locked = none → f.entered = [] → (doReturn e (T.setTop f) acts (some (.int z))).1 = T.setFrames fs) : Steps p.tables e below (T.setTop (mkF m pc Ls (.int z :: rest))) (T.setFrames fs) :=
  retOut X hx hret rfl (Or.inl ⟨rfl, Or.inl rfl, z, rfl⟩) hd hl
end New
end Jvm.RoadKit
namespace Jvm.Pilot.@@N@@
open Jvm Jvm.ClassFile Sem Op Lib Jvm.Free Jvm.Stand Jvm.LawKit Jvm.RoadKit Bundle Jvm.Pilot.@@N@@.Jvm.D
theorem d1_0 : decode prog_253_method_1_code 0 = .ok (.aload_n 0, 1) := by decide +kernel
theorem d1_1 : decode prog_253_method_1_code 1 = .ok (.invokespecial 1, 3) := by decide +kernel
theorem d1_4 : decode prog_253_method_1_code 4 = .ok (.aload_n 0, 1) := by decide +kernel
theorem d1_5 : decode prog_253_method_1_code 5 = .ok (.iconst 0, 1) := by decide +kernel
theorem d1_6 : decode prog_253_method_1_code 6 = .ok (.putfield 9, 3) := by decide +kernel
theorem d1_9 : decode prog_253_method_1_code 9 = .ok (.aload_n 0, 1) := by decide +kernel
theorem d1_10 : decode prog_253_method_1_code 10 = .ok (.new 15, 3) := by decide +kernel
theorem d1_13 : decode prog_253_method_1_code 13 = .ok (.dup, 1) := by decide +kernel
theorem d1_14 : decode prog_253_method_1_code 14 = .ok (.invokespecial 17, 3) := by decide +kernel
theorem d1_17 : decode prog_253_method_1_code 17 = .ok (.putfield 18, 3) := by decide +kernel
theorem d1_20 : decode prog_253_method_1_code 20 = .ok (.aload_n 0, 1) := by decide +kernel
theorem d1_21 : decode prog_253_method_1_code 21 = .ok (.new 15, 3) := by decide +kernel
theorem d1_24 : decode prog_253_method_1_code 24 = .ok (.dup, 1) := by decide +kernel
theorem d1_25 : decode prog_253_method_1_code 25 = .ok (.invokespecial 17, 3) := by decide +kernel
theorem d1_28 : decode prog_253_method_1_code 28 = .ok (.putfield 22, 3) := by decide +kernel
theorem d1_31 : decode prog_253_method_1_code 31 = .ok (.aload_n 0, 1) := by decide +kernel
theorem d1_32 : decode prog_253_method_1_code 32 = .ok (.new 15, 3) := by decide +kernel
theorem d1_35 : decode prog_253_method_1_code 35 = .ok (.dup, 1) := by decide +kernel
theorem d1_36 : decode prog_253_method_1_code 36 = .ok (.invokespecial 17, 3) := by decide +kernel
theorem d1_39 : decode prog_253_method_1_code 39 = .ok (.putfield 25, 3) := by decide +kernel
theorem d1_42 : decode prog_253_method_1_code 42 = .ok (.return_, 1) := by decide +kernel
theorem d3_0 : decode prog_248_method_1_code 0 = .ok (.aload_n 0, 1) := by decide +kernel
theorem d3_1 : decode prog_248_method_1_code 1 = .ok (.invokespecial 1, 3) := by decide +kernel
theorem d3_4 : decode prog_248_method_1_code 4 = .ok (.aload_n 0, 1) := by decide +kernel
theorem d3_5 : decode prog_248_method_1_code 5 = .ok (.new 7, 3) := by decide +kernel
theorem d3_8 : decode prog_248_method_1_code 8 = .ok (.dup, 1) := by decide +kernel
theorem d3_9 : decode prog_248_method_1_code 9 = .ok (.invokespecial 9, 3) := by decide +kernel
theorem d3_12 : decode prog_248_method_1_code 12 = .ok (.putfield 10, 3) := by decide +kernel
theorem d3_15 : decode prog_248_method_1_code 15 = .ok (.return_, 1) := by decide +kernel
theorem d4_0 : decode jdk_94_method_16_code 0 = .ok (.aload_n 0, 1) := by decide +kernel
theorem d4_1 : decode jdk_94_method_16_code 1 = .ok (.invokespecial 87, 3) := by decide +kernel
theorem d4_4 : decode jdk_94_method_16_code 4 = .ok (.aload_n 0, 1) := by decide +kernel
theorem d4_5 : decode jdk_94_method_16_code 5 = .ok (.iconst 0, 1) := by decide +kernel
theorem d4_6 : decode jdk_94_method_16_code 6 = .ok (.putfield 1, 3) := by decide +kernel
theorem d4_9 : decode jdk_94_method_16_code 9 = .ok (.aload_n 0, 1) := by decide +kernel
theorem d4_10 : decode jdk_94_method_16_code 10 = .ok (.iconst 0, 1) := by decide +kernel
theorem d4_11 : decode jdk_94_method_16_code 11 = .ok (.putfield 64, 3) := by decide +kernel
theorem d4_14 : decode jdk_94_method_16_code 14 = .ok (.return_, 1) := by decide +kernel
theorem d5_0 : decode jdk_69_method_7_code 0 = .ok (.aload_n 0, 1) := by decide +kernel
theorem d5_1 : decode jdk_69_method_7_code 1 = .ok (.invokespecial 43, 3) := by decide +kernel
theorem d5_4 : decode jdk_69_method_7_code 4 = .ok (.aload_n 0, 1) := by decide +kernel
theorem d5_5 : decode jdk_69_method_7_code 5 = .ok (.ldc 92, 2) := by decide +kernel
theorem d5_7 : decode jdk_69_method_7_code 7 = .ok (.putfield 81, 3) := by decide +kernel
theorem d5_10 : decode jdk_69_method_7_code 10 = .ok (.return_, 1) := by decide +kernel
theorem d6_0 : decode jdk_71_method_1_code 0 = .ok (.aload_n 0, 1) := by decide +kernel
theorem d6_1 : decode jdk_71_method_1_code 1 = .ok (.invokespecial 1, 3) := by decide +kernel
theorem d6_4 : decode jdk_71_method_1_code 4 = .ok (.return_, 1) := by decide +kernel
theorem d7_0 : decode prog_253_method_4_code 0 = .ok (.aload_n 0, 1) := by decide +kernel
theorem d7_1 : decode prog_253_method_4_code 1 = .ok (.getfield 9, 3) := by decide +kernel
theorem d7_4 : decode prog_253_method_4_code 4 = .ok (.ifCond .ne 14, 3) := by decide +kernel
theorem d7_7 : decode prog_253_method_4_code 7 = .ok (.aload_n 0, 1) := by decide +kernel
theorem d7_8 : decode prog_253_method_4_code 8 = .ok (.new 15, 3) := by decide +kernel
theorem d7_11 : decode prog_253_method_4_code 11 = .ok (.dup, 1) := by decide +kernel
theorem d7_12 : decode prog_253_method_4_code 12 = .ok (.invokespecial 17, 3) := by decide +kernel
theorem d7_15 : decode prog_253_method_4_code 15 = .ok (.putfield 25, 3) := by decide +kernel
theorem d7_18 : decode prog_253_method_4_code 18 = .ok (.aload_n 0, 1) := by decide +kernel
theorem d7_19 : decode prog_253_method_4_code 19 = .ok (.new 51, 3) := by decide +kernel
theorem d7_22 : decode prog_253_method_4_code 22 = .ok (.dup, 1) := by decide +kernel
theorem d7_23 : decode prog_253_method_4_code 23 = .ok (.aload_n 0, 1) := by decide +kernel
theorem d7_24 : decode prog_253_method_4_code 24 = .ok (.getfield 66, 3) := by decide +kernel
theorem d7_27 : decode prog_253_method_4_code 27 = .ok (.aload_n 0, 1) := by decide +kernel
theorem d7_28 : decode prog_253_method_4_code 28 = .ok (.getfield 9, 3) := by decide +kernel
theorem d7_31 : decode prog_253_method_4_code 31 = .ok (.aload_n 0, 1) := by decide +kernel
theorem d7_32 : decode prog_253_method_4_code 32 = .ok (.getfield 22, 3) := by decide +kernel
theorem d7_35 : decode prog_253_method_4_code 35 = .ok (.aload_n 0, 1) := by decide +kernel
theorem d7_36 : decode prog_253_method_4_code 36 = .ok (.getfield 25, 3) := by decide +kernel
theorem d7_39 : decode prog_253_method_4_code 39 = .ok (.invokespecial 69, 3) := by decide +kernel
theorem d7_42 : decode prog_253_method_4_code 42 = .ok (.putfield 46, 3) := by decide +kernel
theorem d7_45 : decode prog_253_method_4_code 45 = .ok (.aload_n 0, 1) := by decide +kernel
theorem d7_46 : decode prog_253_method_4_code 46 = .ok (.new 15, 3) := by decide +kernel
theorem d7_49 : decode prog_253_method_4_code 49 = .ok (.dup, 1) := by decide +kernel
theorem d7_50 : decode prog_253_method_4_code 50 = .ok (.invokespecial 17, 3) := by decide +kernel
theorem d7_53 : decode prog_253_method_4_code 53 = .ok (.putfield 22, 3) := by decide +kernel
theorem d7_56 : decode prog_253_method_4_code 56 = .ok (.aload_n 0, 1) := by decide +kernel
theorem d7_57 : decode prog_253_method_4_code 57 = .ok (.new 15, 3) := by decide +kernel
theorem d7_60 : decode prog_253_method_4_code 60 = .ok (.dup, 1) := by decide +kernel
theorem d7_61 : decode prog_253_method_4_code 61 = .ok (.invokespecial 17, 3) := by decide +kernel
theorem d7_64 : decode prog_253_method_4_code 64 = .ok (.putfield 25, 3) := by decide +kernel
theorem d7_67 : decode prog_253_method_4_code 67 = .ok (.aload_n 0, 1) := by decide +kernel
theorem d7_68 : decode prog_253_method_4_code 68 = .ok (.getfield 46, 3) := by decide +kernel
theorem d7_71 : decode prog_253_method_4_code 71 = .ok (.areturn, 1) := by decide +kernel
theorem d8_0 : decode prog_254_method_1_code 0 = .ok (.aload_n 0, 1) := by decide +kernel
theorem d8_1 : decode prog_254_method_1_code 1 = .ok (.invokespecial 1, 3) := by decide +kernel
theorem d8_4 : decode prog_254_method_1_code 4 = .ok (.aload_n 0, 1) := by decide +kernel
theorem d8_5 : decode prog_254_method_1_code 5 = .ok (.iload_n 1, 1) := by decide +kernel
theorem d8_6 : decode prog_254_method_1_code 6 = .ok (.putfield 7, 3) := by decide +kernel
theorem d8_9 : decode prog_254_method_1_code 9 = .ok (.aload_n 0, 1) := by decide +kernel
theorem d8_10 : decode prog_254_method_1_code 10 = .ok (.iload_n 2, 1) := by decide +kernel
theorem d8_11 : decode prog_254_method_1_code 11 = .ok (.putfield 13, 3) := by decide +kernel
theorem d8_14 : decode prog_254_method_1_code 14 = .ok (.aload_n 0, 1) := by decide +kernel
theorem d8_15 : decode prog_254_method_1_code 15 = .ok (.aload_n 3, 1) := by decide +kernel
theorem d8_16 : decode prog_254_method_1_code 16 = .ok (.putfield 16, 3) := by decide +kernel
theorem d8_19 : decode prog_254_method_1_code 19 = .ok (.aload_n 0, 1) := by decide +kernel
theorem d8_20 : decode prog_254_method_1_code 20 = .ok (.aload 4, 2) := by decide +kernel
theorem d8_22 : decode prog_254_method_1_code 22 = .ok (.putfield 20, 3) := by decide +kernel
theorem d8_25 : decode prog_254_method_1_code 25 = .ok (.return_, 1) := by decide +kernel
theorem d9_0 : decode jdk_30_method_1_code 0 = .ok (.aload_n 0, 1) := by decide +kernel
theorem d9_1 : decode jdk_30_method_1_code 1 = .ok (.invokespecial 1, 3) := by decide +kernel
theorem d9_4 : decode jdk_30_method_1_code 4 = .ok (.return_, 1) := by decide +kernel
theorem d10_0 : decode prog_253_method_8_code 0 = .ok (.aload_n 0, 1) := by decide +kernel
theorem d10_1 : decode prog_253_method_8_code 1 = .ok (.getfield 9, 3) := by decide +kernel
theorem d10_4 : decode prog_253_method_8_code 4 = .ok (.ifCond .ne 5, 3) := by decide +kernel
theorem d10_7 : decode prog_253_method_8_code 7 = .ok (.iconst 0, 1) := by decide +kernel
theorem d10_8 : decode prog_253_method_8_code 8 = .ok (.ireturn, 1) := by decide +kernel
theorem d10_9 : decode prog_253_method_8_code 9 = .ok (.iload_n 1, 1) := by decide +kernel
theorem d10_10 : decode prog_253_method_8_code 10 = .ok (.bipush 70, 2) := by decide +kernel
theorem d10_12 : decode prog_253_method_8_code 12 = .ok (.if_icmp .ne 11, 3) := by decide +kernel
theorem d10_15 : decode prog_253_method_8_code 15 = .ok (.aload_n 0, 1) := by decide +kernel
theorem d10_16 : decode prog_253_method_8_code 16 = .ok (.iconst 0, 1) := by decide +kernel
theorem d10_17 : decode prog_253_method_8_code 17 = .ok (.putfield 66, 3) := by decide +kernel
theorem d10_20 : decode prog_253_method_8_code 20 = .ok (.goto 11, 3) := by decide +kernel
theorem d10_23 : decode prog_253_method_8_code 23 = .ok (.iload_n 1, 1) := by decide +kernel
theorem d10_24 : decode prog_253_method_8_code 24 = .ok (.bipush 71, 2) := by decide +kernel
theorem d10_26 : decode prog_253_method_8_code 26 = .ok (.if_icmp .eq 5, 3) := by decide +kernel
theorem d10_29 : decode prog_253_method_8_code 29 = .ok (.iconst 0, 1) := by decide +kernel
theorem d10_30 : decode prog_253_method_8_code 30 = .ok (.ireturn, 1) := by decide +kernel
theorem d10_31 : decode prog_253_method_8_code 31 = .ok (.aload_n 0, 1) := by decide +kernel
theorem d10_32 : decode prog_253_method_8_code 32 = .ok (.iconst 0, 1) := by decide +kernel
theorem d10_33 : decode prog_253_method_8_code 33 = .ok (.putfield 9, 3) := by decide +kernel
theorem d10_36 : decode prog_253_method_8_code 36 = .ok (.iconst 1, 1) := by decide +kernel
theorem d10_37 : decode prog_253_method_8_code 37 = .ok (.ireturn, 1) := by decide +kernel
theorem d11_0 : decode prog_253_method_7_code 0 = .ok (.aload_n 0, 1) := by decide +kernel
theorem d11_1 : decode prog_253_method_7_code 1 = .ok (.getfield 9, 3) := by decide +kernel
theorem d11_4 : decode prog_253_method_7_code 4 = .ok (.ifCond .eq 7, 3) := by decide +kernel
theorem d11_7 : decode prog_253_method_7_code 7 = .ok (.iconst 1, 1) := by decide +kernel
theorem d11_8 : decode prog_253_method_7_code 8 = .ok (.goto 4, 3) := by decide +kernel
theorem d11_11 : decode prog_253_method_7_code 11 = .ok (.iconst 0, 1) := by decide +kernel
theorem d11_12 : decode prog_253_method_7_code 12 = .ok (.ireturn, 1) := by decide +kernel
theorem d12_0 : decode prog_254_method_5_code 0 = .ok (.aload_n 0, 1) := by decide +kernel
theorem d12_1 : decode prog_254_method_5_code 1 = .ok (.getfield 7, 3) := by decide +kernel
theorem d12_4 : decode prog_254_method_5_code 4 = .ok (.ireturn, 1) := by decide +kernel
theorem d13_0 : decode prog_254_method_6_code 0 = .ok (.aload_n 0, 1) := by decide +kernel
theorem d13_1 : decode prog_254_method_6_code 1 = .ok (.getfield 13, 3) := by decide +kernel
theorem d13_4 : decode prog_254_method_6_code 4 = .ok (.ireturn, 1) := by decide +kernel
theorem d14_0 : decode prog_253_method_5_code 0 = .ok (.aload_n 0, 1) := by decide +kernel
theorem d14_1 : decode prog_253_method_5_code 1 = .ok (.getfield 9, 3) := by decide +kernel
theorem d14_4 : decode prog_253_method_5_code 4 = .ok (.ifCond .ne 33, 3) := by decide +kernel
theorem d14_7 : decode prog_253_method_5_code 7 = .ok (.aload_n 0, 1) := by decide +kernel
theorem d14_8 : decode prog_253_method_5_code 8 = .ok (.iload_n 1, 1) := by decide +kernel
theorem d14_9 : decode prog_253_method_5_code 9 = .ok (.putfield 66, 3) := by decide +kernel
theorem d14_12 : decode prog_253_method_5_code 12 = .ok (.aload_n 0, 1) := by decide +kernel
theorem d14_13 : decode prog_253_method_5_code 13 = .ok (.getfield 66, 3) := by decide +kernel
theorem d14_16 : decode prog_253_method_5_code 16 = .ok (.ifCond .ne 4, 3) := by decide +kernel
theorem d14_19 : decode prog_253_method_5_code 19 = .ok (.return_, 1) := by decide +kernel
theorem d14_20 : decode prog_253_method_5_code 20 = .ok (.aload_n 0, 1) := by decide +kernel
theorem d14_21 : decode prog_253_method_5_code 21 = .ok (.iconst 1, 1) := by decide +kernel
theorem d14_22 : decode prog_253_method_5_code 22 = .ok (.putfield 9, 3) := by decide +kernel
theorem d14_25 : decode prog_253_method_5_code 25 = .ok (.aload_n 0, 1) := by decide +kernel
theorem d14_26 : decode prog_253_method_5_code 26 = .ok (.aload_n 0, 1) := by decide +kernel
theorem d14_27 : decode prog_253_method_5_code 27 = .ok (.getfield 46, 3) := by decide +kernel
theorem d14_30 : decode prog_253_method_5_code 30 = .ok (.invokevirtual 50, 3) := by decide +kernel
theorem d14_33 : decode prog_253_method_5_code 33 = .ok (.putfield 18, 3) := by decide +kernel
theorem d14_36 : decode prog_253_method_5_code 36 = .ok (.return_, 1) := by decide +kernel
theorem d14_37 : decode prog_253_method_5_code 37 = .ok (.aload_n 0, 1) := by decide +kernel
theorem d14_38 : decode prog_253_method_5_code 38 = .ok (.aload_n 0, 1) := by decide +kernel
theorem d14_39 : decode prog_253_method_5_code 39 = .ok (.getfield 9, 3) := by decide +kernel
theorem d14_42 : decode prog_253_method_5_code 42 = .ok (.invokestatic 72, 3) := by decide +kernel
theorem d14_45 : decode prog_253_method_5_code 45 = .ok (.putfield 9, 3) := by decide +kernel
theorem d14_48 : decode prog_253_method_5_code 48 = .ok (.aload_n 0, 1) := by decide +kernel
theorem d14_49 : decode prog_253_method_5_code 49 = .ok (.getfield 46, 3) := by decide +kernel
theorem d14_52 : decode prog_253_method_5_code 52 = .ok (.invokevirtual 50, 3) := by decide +kernel
theorem d14_55 : decode prog_253_method_5_code 55 = .ok (.aload_n 0, 1) := by decide +kernel
theorem d14_56 : decode prog_253_method_5_code 56 = .ok (.getfield 18, 3) := by decide +kernel
theorem d14_59 : decode prog_253_method_5_code 59 = .ok (.dup, 1) := by decide +kernel
theorem d14_60 : decode prog_253_method_5_code 60 = .ok (.invokestatic 76, 3) := by decide +kernel
theorem d14_63 : decode prog_253_method_5_code 63 = .ok (.pop, 1) := by decide +kernel
theorem d14_64 : decode prog_253_method_5_code 64 = .ok (.invokedynamic 82, 5) := by decide +kernel
theorem d14_69 : decode prog_253_method_5_code 69 = .ok (.invokevirtual 86, 3) := by decide +kernel
theorem d14_72 : decode prog_253_method_5_code 72 = .ok (.aload_n 0, 1) := by decide +kernel
theorem d14_73 : decode prog_253_method_5_code 73 = .ok (.getfield 46, 3) := by decide +kernel
theorem d14_76 : decode prog_253_method_5_code 76 = .ok (.invokevirtual 90, 3) := by decide +kernel
theorem d14_79 : decode prog_253_method_5_code 79 = .ok (.aload_n 0, 1) := by decide +kernel
theorem d14_80 : decode prog_253_method_5_code 80 = .ok (.invokedynamic 93, 5) := by decide +kernel
theorem d14_85 : decode prog_253_method_5_code 85 = .ok (.invokevirtual 86, 3) := by decide +kernel
theorem d14_88 : decode prog_253_method_5_code 88 = .ok (.return_, 1) := by decide +kernel
theorem d15_0 : decode prog_254_method_7_code 0 = .ok (.aload_n 0, 1) := by decide +kernel
theorem d15_1 : decode prog_254_method_7_code 1 = .ok (.getfield 16, 3) := by decide +kernel
theorem d15_4 : decode prog_254_method_7_code 4 = .ok (.areturn, 1) := by decide +kernel
theorem d16_0 : decode prog_244_method_17_code 0 = .ok (.iload_n 0, 1) := by decide +kernel
theorem d16_1 : decode prog_244_method_17_code 1 = .ok (.ldc 114, 2) := by decide +kernel
theorem d16_3 : decode prog_244_method_17_code 3 = .ok (.if_icmp .ne 7, 3) := by decide +kernel
theorem d16_10 : decode prog_244_method_17_code 10 = .ok (.iload_n 0, 1) := by decide +kernel
theorem d16_11 : decode prog_244_method_17_code 11 = .ok (.iconst 1, 1) := by decide +kernel
theorem d16_12 : decode prog_244_method_17_code 12 = .ok (.iadd, 1) := by decide +kernel
theorem d16_13 : decode prog_244_method_17_code 13 = .ok (.ireturn, 1) := by decide +kernel
theorem d17_0 : decode jdk_31_method_10_code 0 = .ok (.aload_n 0, 1) := by decide +kernel
theorem d17_1 : decode jdk_31_method_10_code 1 = .ok (.ifnonnull 11, 3) := by decide +kernel
theorem d17_12 : decode jdk_31_method_10_code 12 = .ok (.aload_n 0, 1) := by decide +kernel
theorem d17_13 : decode jdk_31_method_10_code 13 = .ok (.areturn, 1) := by decide +kernel
theorem d18_0 : decode prog_248_method_9_code 0 = .ok (.aload_n 0, 1) := by decide +kernel
theorem d18_1 : decode prog_248_method_9_code 1 = .ok (.getfield 10, 3) := by decide +kernel
theorem d18_4 : decode prog_248_method_9_code 4 = .ok (.aload_n 1, 1) := by decide +kernel
theorem d18_5 : decode prog_248_method_9_code 5 = .ok (.invokedynamic 63, 5) := by decide +kernel
theorem d18_10 : decode prog_248_method_9_code 10 = .ok (.invokeinterface 67 2, 5) := by decide +kernel
theorem d18_15 : decode prog_248_method_9_code 15 = .ok (.return_, 1) := by decide +kernel
theorem d19_0 : decode jdk_94_method_34_code 0 = .ok (.aload_n 1, 1) := by decide +kernel
theorem d19_1 : decode jdk_94_method_34_code 1 = .ok (.ifnonnull 11, 3) := by decide +kernel
theorem d19_12 : decode jdk_94_method_34_code 12 = .ok (.aload_n 0, 1) := by decide +kernel
theorem d19_13 : decode jdk_94_method_34_code 13 = .ok (.getfield 68, 3) := by decide +kernel
theorem d19_16 : decode jdk_94_method_34_code 16 = .ok (.istore_n 2, 1) := by decide +kernel
theorem d19_17 : decode jdk_94_method_34_code 17 = .ok (.aload_n 0, 1) := by decide +kernel
theorem d19_18 : decode jdk_94_method_34_code 18 = .ok (.getfield 7, 3) := by decide +kernel
theorem d19_21 : decode jdk_94_method_34_code 21 = .ok (.astore_n 3, 1) := by decide +kernel
theorem d19_22 : decode jdk_94_method_34_code 22 = .ok (.aload_n 3, 1) := by decide +kernel
theorem d19_23 : decode jdk_94_method_34_code 23 = .ok (.ifnull 25, 3) := by decide +kernel
theorem d19_48 : decode jdk_94_method_34_code 48 = .ok (.aload_n 0, 1) := by decide +kernel
theorem d19_49 : decode jdk_94_method_34_code 49 = .ok (.getfield 68, 3) := by decide +kernel
theorem d19_52 : decode jdk_94_method_34_code 52 = .ok (.iload_n 2, 1) := by decide +kernel
theorem d19_53 : decode jdk_94_method_34_code 53 = .ok (.if_icmp .eq 11, 3) := by decide +kernel
theorem d19_64 : decode jdk_94_method_34_code 64 = .ok (.return_, 1) := by decide +kernel
theorem d20_0 : decode prog_254_method_8_code 0 = .ok (.aload_n 0, 1) := by decide +kernel
theorem d20_1 : decode prog_254_method_8_code 1 = .ok (.getfield 20, 3) := by decide +kernel
theorem d20_4 : decode prog_254_method_8_code 4 = .ok (.areturn, 1) := by decide +kernel
theorem pd_0 : parseMethodDescriptor "()V" = some ⟨[], none⟩ := by decide +kernel
theorem pd_1 : parseMethodDescriptor "(IILcom/example/tideline/tideline/session/FetchSession$Partitions;Lcom/example/tideline/tideline/session/FetchSession$Partitions;)V" = some ⟨[.int, .int, (.object "com/example/tideline/tideline/session/FetchSession$Partitions"), (.object "com/example/tideline/tideline/session/FetchSession$Partitions")], none⟩ := by decide +kernel
theorem pd_2 : parseMethodDescriptor "(Ljava/util/function/BiConsumer;)V" = some ⟨[(.object "java/util/function/BiConsumer")], none⟩ := by decide +kernel
theorem pd_3 : parseMethodDescriptor "()Lcom/example/tideline/tideline/session/FetchSession$Partitions;" = some ⟨[], some (.object "com/example/tideline/tideline/session/FetchSession$Partitions")⟩ := by decide +kernel
theorem pd_4 : parseMethodDescriptor "(I)I" = some ⟨[.int], some .int⟩ := by decide +kernel
theorem pd_5 : parseMethodDescriptor "(Ljava/lang/Object;)Ljava/lang/Object;" = some ⟨[(.object "java/lang/Object")], some (.object "java/lang/Object")⟩ := by decide +kernel
theorem pd_6 : parseMethodDescriptor "(Lcom/example/tideline/tideline/session/FetchSession$Partitions$Each;)V" = some ⟨[(.object "com/example/tideline/tideline/session/FetchSession$Partitions$Each")], none⟩ := by decide +kernel
theorem pd_7 : parseMethodDescriptor "()Lcom/example/tideline/tideline/session/FetcherSession$Request;" = some ⟨[], some (.object "com/example/tideline/tideline/session/FetcherSession$Request")⟩ := by decide +kernel
theorem pd_8 : parseMethodDescriptor "(I)V" = some ⟨[.int], none⟩ := by decide +kernel
theorem pd_9 : parseMethodDescriptor "(S)Z" = some ⟨[.short], some .boolean⟩ := by decide +kernel
theorem pd_10 : parseMethodDescriptor "()Z" = some ⟨[], some .boolean⟩ := by decide +kernel
theorem pd_11 : parseMethodDescriptor "()I" = some ⟨[], some .int⟩ := by decide +kernel
def own_part (Z : State) (h : Heap) (lo : Nat) (q : Addr) : Prop := lo ≤ q ∧ Exa Z h q "com/example/tideline/tideline/session/FetchSession$Partitions" ∧ ∃ mm, lo ≤ mm ∧ Fld Z h q "com/example/tideline/tideline/session/FetchSession$Partitions" "byTopic" "Ljava/util/Map;" (.ref mm) ∧ Exa Z h mm "java/util/LinkedHashMap" ∧ Fld Z h mm "java/util/HashMap" "modCount" "I" (.int (0 : Int32)) ∧ Fld Z h mm "java/util/LinkedHashMap" "head" "Ljava/util/LinkedHashMap$Entry;" .null
theorem own_part.ext {Z : State} {h h' : Heap} {lo : Nat} {q : Addr} (P : own_part Z h lo q) (E : Ext h h') : own_part Z h' lo q := by
  obtain ⟨a, b, mm, c, d, e, f, g⟩ := P
  exact ⟨a, b.ext E, mm, c, d.ext E, e.ext E, f.ext E, g.ext E⟩
theorem own_part.keep {Z : State} {h h' : Heap} {lo : Nat} {q : Addr} {ws : List Addr} (P : own_part Z h lo q) (K : Keep h h' ws) (hl : ∀ x ∈ ws, x < lo) : own_part Z h' lo q := by
  obtain ⟨a, b, mm, c, d, e, f, g⟩ := P
  have n1 : q ∉ ws := fun z => Nat.lt_irrefl _ (Nat.lt_of_lt_of_le (hl q z) a)
  have n2 : mm ∉ ws := fun z => Nat.lt_irrefl _ (Nat.lt_of_lt_of_le (hl mm z) c)
  exact ⟨a, b.keep K, mm, c, d.keep K n1, e.keep K, f.keep K n2, g.keep K n2⟩
theorem own_part.wr {Z : State} {h h' : Heap} {lo : Nat} {q : Addr} {x : Addr} {sl : Nat} {v : Value} (P : own_part Z h lo q) (W : Wr h h' x sl v) (hl : x < lo) : own_part Z h' lo q := P.keep (Keep.of_wr W) (allS hl all0)
theorem own_part.mono {Z : State} {h : Heap} {lo lo' : Nat} {q : Addr} (P : own_part Z h lo q) (hl : lo' ≤ lo) : own_part Z h lo' q := by
  obtain ⟨a, b, mm, c, r⟩ := P
  exact ⟨Nat.le_trans hl a, b, mm, Nat.le_trans hl c, r⟩
theorem own_part.made {Z : State} {h h1 h2 : Heap} {lo : Nat} {q x : Addr} (P : own_part Z h lo q) (E : Ext h h1) (K : Keep h1 h2 [x]) (g : x = h.size) : own_part Z h2 lo q := by
  obtain ⟨a, b, mm, c, d, e, f, k⟩ := P
  have n1 : q ∉ [x] := fun z => Nat.ne_of_lt b.lt (by rw [← g]; exact List.mem_singleton.mp z)
  have n2 : mm ∉ [x] := fun z => Nat.ne_of_lt e.lt (by rw [← g]; exact List.mem_singleton.mp z)
  exact ⟨a, (b.ext E).keep K, mm, c, (d.ext E).keep K n1, (e.ext E).keep K, (f.ext E).keep K n2, (k.ext E).keep K n2⟩
theorem own_lam {p : Program} {l : Launch} {e : Env} {R : Room} {s : State} {m : MethodId} {args : Array Value} {below : List Frame} {meth : Method} {c : Code} {T : State} {locs : List Loc} {cells slots : Nat} {Z : State} {a0 : Array Value} {h : Heap}
    (X : Stand p l e R s m args below meth c T locs cells slots) (hx : p.tables.exec = Jvm.exec) (hZ : Z.Warmed39 s.vm) {x : MethodName} {pc index fi : Nat} {σ : Lambda.Shape} (hnamed : s.methodNamed? x = some m) (w : (Jvm.Cond.lambdaSite x pc index σ).before a0 Z = true)
    (hok : Jvm.LamKit.capOK σ x.cls fi 0 = true) (wO : (Jvm.Cond.instantiable "java/lang/Object" 0).before a0 Z = true) (eT : T.heap = h) {g : JFrame} (hg : g.method = m) (hpc : g.pc = pc) (hsize : g.locals.size = c.maxLocals) (hdg : decode c.code g.pc = .ok (.invokedynamic index, 5))
    {a : Addr} {rest : List Value} {t : FieldType} (hc1 : σ.captured = [t]) (ht : narrow t (.ref a) = .ref a ∧ fits t (.ref a) = true) (hstack : g.stack = .ref a :: rest) (hwords : 2 * g.monitorRoom + (g.stack.map fun v => v.category).sum + 3072 ≤ R.locals) (hcells : cells + 1 ≤ R.cells) (hslots : slots + 1 ≤ R.slots) :
    ∃ (T' : State) (h' : Heap), Stand p l e R s m args below meth c T' locs (cells + 1) (slots + 1) ∧ T'.heap = h' ∧ Ext h h' ∧ ∀ target, Steps p.tables e below (T'.setTop { g with pc := g.pc + 5, stack := .ref h.size :: rest }) target → Steps p.tables e below (T.setTop g) target := by
  obtain ⟨cK, one, hat⟩ := Cond.lambdaSite_spec w
  obtain ⟨mD, kD, cfD, i0, p0, lk, hmD, hkD, hcfD, hsh, -, hfind, hmade, hcan, hl⟩ := State.lambdaAt?_spec hat
  have hm' : s.methodNamed? x = some mD := by
    have q := State.methodNamed?_setVm (s := Z) hZ.alike x
    rw [hmD] at q
    exact q
  cases hnamed.symm.trans hm'
  obtain ⟨kD2, hkD2, hnameD⟩ := className_of_methodNamed hmD
  cases hkD.symm.trans hkD2
  rcases hl with ⟨a', cell, -, -, hc0, -⟩ | ⟨rfl, -, -⟩
  · rw [hc1] at hc0; cases hc0
  · obtain ⟨b, nt, desc, site, h1, h2, h3, h4⟩ := Jvm.Lambda.shapeOf?_site hsh
    obtain ⟨kc, f, hkc, hkind, hty, -⟩ := Jvm.LamKit.made_cap hok hkD hnameD hmade (Jvm.LamKit.noFields wO (State.WarmedH.refl Z))
    obtain ⟨kD', hkD', heD⟩ := hZ.alike.2.2 _ _ hkD
    obtain ⟨kc', hkc', hec⟩ := hZ.alike.2.2 _ _ hkc
    have hty' : kc'.instanceTypes = #[t] := by rw [hec]; show kc.instanceTypes = #[t]; rw [hty, hc1]
    have hkind' : kc'.kind = .ordinary := by rw [hec]; exact hkind
    have hz : ((kc'.instanceTypes.toList.zip [Value.ref a]).map fun (t, v) => narrow t v) = [Value.ref a] := by rw [hty']; show [narrow t (.ref a)] = _; rw [ht.1]
    have hw : e.platform.lambdaLinkWords = 3072 := by rw [X.admits.platform]
    have q := X.lambdaMakes hx hg hsize hdg (vals := [.ref a]) (rest := rest) hkD' (by rw [hpc, heD]; exact hfind) (by rw [heD]; exact hcfD) h1 h2 (parseLong_of_parse h3) (by rw [h4, hc1]; rfl) hstack hkc' (by rw [hw]; exact hwords) hcells (by rw [hz]; exact hslots)
      (fun i v hv => by
        rw [hz] at hv
        match i, hv with
        | 0, hv =>
          obtain rfl : Value.ref a = v := Option.some.inj hv
          simp [State.fitsSlot, State.slotType?, hkc', hkind', hty', ht.2])
    rw [hz] at q
    subst eT
    exact ⟨_, _, q.1, rfl, ext_of fun y hy => (Array.getElem?_push_lt hy).trans (Array.getElem?_eq_getElem hy).symm, q.2⟩
theorem own_b01 {z : Int32} (h : z = 0 ∨ z = 1) : nar .boolean z = z := by rcases h with rfl | rfl <;> rfl
theorem own_s16 (x : Int32) : nar .short (x.toInt16.toInt32) = x.toInt16.toInt32 := by
  show (x.toInt16.toInt32).toInt16.toInt32 = x.toInt16.toInt32
  rw [Int16.toInt16_toInt32]
theorem ef_6 (m : MethodId) (a1 : Addr) : entryFrame m #[(.ref a1)] 1 = (mkF m 0 #[.val (.ref a1)] []) := by first | (simp [entryFrame, mkF, argsToLocals, Value.category]; done) | rfl
theorem pn_6 : plainName "java/util/AbstractMap" = true := by first | (simp [plainName, overriddenIn]; done) | decide +kernel
theorem ef_9 (m : MethodId) (a1 : Addr) : entryFrame m #[(.ref a1)] 1 = (mkF m 0 #[.val (.ref a1)] []) := by first | (simp [entryFrame, mkF, argsToLocals, Value.category]; done) | rfl
theorem pn_9 : plainName "java/lang/Record" = true := by first | (simp [plainName, overriddenIn]; done) | decide +kernel
theorem ef_5 (m : MethodId) (a1 : Addr) : entryFrame m #[(.ref a1)] 1 = (mkF m 0 #[.val (.ref a1)] []) := by first | (simp [entryFrame, mkF, argsToLocals, Value.category]; done) | rfl
theorem pn_5 : plainName "java/util/HashMap" = true := by first | (simp [plainName, overriddenIn]; done) | decide +kernel
theorem ef_4 (m : MethodId) (a1 : Addr) : entryFrame m #[(.ref a1)] 1 = (mkF m 0 #[.val (.ref a1)] []) := by first | (simp [entryFrame, mkF, argsToLocals, Value.category]; done) | rfl
theorem pn_4 : plainName "java/util/LinkedHashMap" = true := by first | (simp [plainName, overriddenIn]; done) | decide +kernel
theorem ef_3 (m : MethodId) (a1 : Addr) : entryFrame m #[(.ref a1)] 1 = (mkF m 0 #[.val (.ref a1)] []) := by first | (simp [entryFrame, mkF, argsToLocals, Value.category]; done) | rfl
theorem pn_3 : plainName "com/example/tideline/tideline/session/FetchSession$Partitions" = true := by first | (simp [plainName, overriddenIn]; done) | decide +kernel
theorem ef_1 (m : MethodId) (a1 : Addr) : entryFrame m #[(.ref a1)] 1 = (mkF m 0 #[.val (.ref a1)] []) := by first | (simp [entryFrame, mkF, argsToLocals, Value.category]; done) | rfl
theorem pn_1 : plainName "com/example/tideline/tideline/session/FetcherSession" = true := by first | (simp [plainName, overriddenIn]; done) | decide +kernel
theorem ef_8 (m : MethodId) (a1 : Addr) (p1 : Int32) (p2 : Int32) (x1 : Addr) (x2 : Addr) : entryFrame m #[(.ref a1), (.int p1), (.int p2), (.ref x1), (.ref x2)] 5 = (mkF m 0 #[.val (.ref a1), .val (.int p1), .val (.int p2), .val (.ref x1), .val (.ref x2)] []) := by first | (simp [entryFrame, mkF, argsToLocals, Value.category]; done) | rfl
theorem pn_8 : plainName "com/example/tideline/tideline/session/FetcherSession$Request" = true := by first | (simp [plainName, overriddenIn]; done) | decide +kernel
theorem ef_7 (m : MethodId) (a1 : Addr) : entryFrame m #[(.ref a1)] 1 = (mkF m 0 #[.val (.ref a1)] []) := by first | (simp [entryFrame, mkF, argsToLocals, Value.category]; done) | rfl
theorem pn_7 : plainName "com/example/tideline/tideline/session/FetcherSession" = true := by first | (simp [plainName, overriddenIn]; done) | decide +kernel
theorem ef_12 (m : MethodId) (a1 : Addr) : entryFrame m #[(.ref a1)] 1 = (mkF m 0 #[.val (.ref a1)] []) := by first | (simp [entryFrame, mkF, argsToLocals, Value.category]; done) | rfl
theorem pn_12 : plainName "com/example/tideline/tideline/session/FetcherSession$Request" = true := by first | (simp [plainName, overriddenIn]; done) | decide +kernel
theorem ef_13 (m : MethodId) (a1 : Addr) : entryFrame m #[(.ref a1)] 1 = (mkF m 0 #[.val (.ref a1)] []) := by first | (simp [entryFrame, mkF, argsToLocals, Value.category]; done) | rfl
theorem pn_13 : plainName "com/example/tideline/tideline/session/FetcherSession$Request" = true := by first | (simp [plainName, overriddenIn]; done) | decide +kernel
theorem ef_15 (m : MethodId) (a1 : Addr) : entryFrame m #[(.ref a1)] 1 = (mkF m 0 #[.val (.ref a1)] []) := by first | (simp [entryFrame, mkF, argsToLocals, Value.category]; done) | rfl
theorem pn_15 : plainName "com/example/tideline/tideline/session/FetcherSession$Request" = true := by first | (simp [plainName, overriddenIn]; done) | decide +kernel
theorem ef_20 (m : MethodId) (a1 : Addr) : entryFrame m #[(.ref a1)] 1 = (mkF m 0 #[.val (.ref a1)] []) := by first | (simp [entryFrame, mkF, argsToLocals, Value.category]; done) | rfl
theorem pn_20 : plainName "com/example/tideline/tideline/session/FetcherSession$Request" = true := by first | (simp [plainName, overriddenIn]; done) | decide +kernel
theorem ef_11 (m : MethodId) (a1 : Addr) : entryFrame m #[(.ref a1)] 1 = (mkF m 0 #[.val (.ref a1)] []) := by first | (simp [entryFrame, mkF, argsToLocals, Value.category]; done) | rfl
theorem pn_11 : plainName "com/example/tideline/tideline/session/FetcherSession" = true := by first | (simp [plainName, overriddenIn]; done) | decide +kernel
theorem ef_16 (m : MethodId) (p1 : Int32) : entryFrame m #[(.int p1)] 1 = (mkF m 0 #[.val (.int p1)] []) := by first | (simp [entryFrame, mkF, argsToLocals, Value.category]; done) | rfl
theorem pn_16 : plainName "com/example/tideline/tideline/session/FetchSession" = true := by first | (simp [plainName, overriddenIn]; done) | decide +kernel
theorem ef_17 (m : MethodId) (a1 : Addr) : entryFrame m #[(.ref a1)] 1 = (mkF m 0 #[.val (.ref a1)] []) := by first | (simp [entryFrame, mkF, argsToLocals, Value.category]; done) | rfl
theorem pn_17 : plainName "java/util/Objects" = true := by first | (simp [plainName, overriddenIn]; done) | decide +kernel
theorem ef_19 (m : MethodId) (a1 : Addr) (a2 : Addr) : entryFrame m #[(.ref a1), (.ref a2)] 4 = (mkF m 0 #[.val (.ref a1), .val (.ref a2), .unset, .unset] []) := by first | (simp [entryFrame, mkF, argsToLocals, Value.category]; done) | rfl
theorem pn_19 : plainName "java/util/LinkedHashMap" = true := by first | (simp [plainName, overriddenIn]; done) | decide +kernel
theorem ef_18 (m : MethodId) (a1 : Addr) (a2 : Addr) : entryFrame m #[(.ref a1), (.ref a2)] 2 = (mkF m 0 #[.val (.ref a1), .val (.ref a2)] []) := by first | (simp [entryFrame, mkF, argsToLocals, Value.category]; done) | rfl
theorem pn_18 : plainName "com/example/tideline/tideline/session/FetchSession$Partitions" = true := by first | (simp [plainName, overriddenIn]; done) | decide +kernel
theorem ef_10 (m : MethodId) (a1 : Addr) (p3 : Int32) : entryFrame m #[(.ref a1), (.int p3)] 2 = (mkF m 0 #[.val (.ref a1), .val (.int p3)] []) := by first | (simp [entryFrame, mkF, argsToLocals, Value.category]; done) | rfl
theorem pn_10 : plainName "com/example/tideline/tideline/session/FetcherSession" = true := by first | (simp [plainName, overriddenIn]; done) | decide +kernel
theorem ef_14 (m : MethodId) (a1 : Addr) (p3 : Int32) : entryFrame m #[(.ref a1), (.int p3)] 2 = (mkF m 0 #[.val (.ref a1), .val (.int p3)] []) := by first | (simp [entryFrame, mkF, argsToLocals, Value.category]; done) | rfl
theorem pn_14 : plainName "com/example/tideline/tideline/session/FetcherSession" = true := by first | (simp [plainName, overriddenIn]; done) | decide +kernel
theorem ef_0 (m : MethodId) (p0 : Int32) (p1 : Int32) (p2 : Int32) : entryFrame m #[(.int p0), (.int p1), (.int p2)] maxLocals = (mkF m 0 #[.val (.int p0), .val (.int p1), .val (.int p2), .unset, .unset, .unset, .unset, .unset, .unset, .unset, .unset, .unset, .unset, .unset, .unset] []) := by first | (simp [entryFrame, mkF, argsToLocals, Value.category, maxLocals]; done) | rfl
theorem pn_0 : plainName "com/example/tideline/tideline/session/FetcherSessionStartOverPinLaw" = true := by first | (simp [plainName, overriddenIn]; done) | decide +kernel
def Q6 (Z : State) (a1 : Addr) (h0 : Heap) (n0 : Nat) (v : Option Value) (h : Heap) (L : List Loc) : Prop := v = none ∧ Fr n0 L ∧ h = h0
set_option maxRecDepth 65536 in
set_option maxHeartbeats 40000000 in
theorem rm6 (l : Launch) (Z : State) (a0 : Array Value) (hw : ∀ d ∈ tables_1, d.before a0 Z = true) (ws : List Jvm.Cond) (a1 : Addr) (h0 : Heap) (n0 : Nat) (Z0 : n0 ≤ h0.size) :
    MetFree l (⟨"java/util/AbstractMap", "<init>", "()V"⟩ : MethodName) (head1 (Jvm.Cond.code (⟨"java/util/AbstractMap", "<init>", "()V"⟩ : MethodName) jdk_71_method_1_code 1 none :: ws) ({ frames := 1, cells := 0, slots := 0, locals := 12 } : Room)) (fun a U => a = #[(.ref a1)] ∧ Z.Warmed39 U.vm ∧ U.heap = h0) (fun _ _ _ _ _ => True) (fun _ U o U' => ∃ v L, o = .returned v ∧ Q6 Z a1 h0 n0 v U'.heap L ∧ FrameEnd U o U' L ({ frames := 1, cells := 0, slots := 0, locals := 12 } : Room).cells ({ frames := 1, cells := 0, slots := 0, locals := 12 } : Room).slots) := by
  refine MetFree.of_bodySF (plainFor_of_name pn_6) hisR ?_
  intro p e s m args below meth c s₁ Bd hml0 hP hK
  obtain ⟨rfl, hZ, hh⟩ := hP
  have hx := Bd.exec
  have hby := Bd.bytes
  have hml : c.maxLocals = 1 := hml0
  have hown : s.vm.findClass "java/util/AbstractMap" = some m.cls := findClass_of_methodNamed Bd.named
  have hnm := (name_of_methodNamed Bd.named Bd.method).1
  have X0 : Stand p l e ({ frames := 1, cells := 0, slots := 0, locals := 12 } : Room) s m #[(.ref a1)] below meth c s₁ [] 0 0 := Stand.of_body Bd
  have e0 : s₁.heap = h0 := by rw [← hh, Bd.state]; rfl
  have N0 := Fr.nil n0
  have pre0 : ∀ t, Steps p.tables e below (s₁.setTop (mkF m 0 #[.val (.ref a1)] [])) t → Steps p.tables e below (s₁.setTop (entryFrame m #[(.ref a1)] 1)) t := fun t k => castTop (ef_6 m a1) k
  obtain ⟨T1, X1, e1, st1⟩ := initO X0 hx hZ hown (hw _ (List.mem_of_getElem? (i := 36) rfl)) (hw _ (List.mem_of_getElem? (i := 7) rfl)) (hw _ (List.mem_of_getElem? (i := 8) rfl)) e0 (g := (mkF m 1 #[.val (.ref a1)] [(.ref a1)])) rfl (by rw [hml]; rfl) rfl (hb hby d6_1) (by decide) (W := 0) (by show 2 * 0 + _ ≤ _; exact Nat.le_of_eq rfl) (by decide)
  obtain ⟨fs, hr, hrun, hended, hW, hsame⟩ := X1.leave (v := none) (fun _ => rfl)
  refine ⟨_, _, pre0 _ ?_, hrun, hended, _, _, rfl, ?_, ⟨_, rfl⟩, hW, hsame.mono (by decide) (by decide)⟩
  · show Steps p.tables e below (s₁.setTop (mkF m 0 #[.val (.ref a1)] [])) _
    refine XS.aloadN X0.here hx rfl (hb hby d6_0) rfl rfl ?_
    show Steps p.tables e below (s₁.setTop (mkF m 1 #[.val (.ref a1)] [(.ref a1)])) _
    refine st1 _ ?_
    show Steps p.tables e below (T1.setTop (mkF m 4 #[.val (.ref a1)] [])) _
    exact X1.returnOut hx Bd.returns (hb hby d6_4) hr
  · show Q6 Z a1 h0 n0 _ T1.heap _
    rw [e1]
    exact ⟨rfl, N0, rfl⟩
def Q9 (Z : State) (a1 : Addr) (h0 : Heap) (n0 : Nat) (v : Option Value) (h : Heap) (L : List Loc) : Prop := v = none ∧ Fr n0 L ∧ h = h0
set_option maxRecDepth 65536 in
set_option maxHeartbeats 40000000 in
theorem rm9 (l : Launch) (Z : State) (a0 : Array Value) (hw : ∀ d ∈ tables_1, d.before a0 Z = true) (ws : List Jvm.Cond) (a1 : Addr) (h0 : Heap) (n0 : Nat) (Z0 : n0 ≤ h0.size) :
    MetFree l (⟨"java/lang/Record", "<init>", "()V"⟩ : MethodName) (head1 (Jvm.Cond.code (⟨"java/lang/Record", "<init>", "()V"⟩ : MethodName) jdk_30_method_1_code 1 none :: ws) ({ frames := 1, cells := 0, slots := 0, locals := 12 } : Room)) (fun a U => a = #[(.ref a1)] ∧ Z.Warmed39 U.vm ∧ U.heap = h0) (fun _ _ _ _ _ => True) (fun _ U o U' => ∃ v L, o = .returned v ∧ Q9 Z a1 h0 n0 v U'.heap L ∧ FrameEnd U o U' L ({ frames := 1, cells := 0, slots := 0, locals := 12 } : Room).cells ({ frames := 1, cells := 0, slots := 0, locals := 12 } : Room).slots) := by
  refine MetFree.of_bodySF (plainFor_of_name pn_9) hisR ?_
  intro p e s m args below meth c s₁ Bd hml0 hP hK
  obtain ⟨rfl, hZ, hh⟩ := hP
  have hx := Bd.exec
  have hby := Bd.bytes
  have hml : c.maxLocals = 1 := hml0
  have hown : s.vm.findClass "java/lang/Record" = some m.cls := findClass_of_methodNamed Bd.named
  have hnm := (name_of_methodNamed Bd.named Bd.method).1
  have X0 : Stand p l e ({ frames := 1, cells := 0, slots := 0, locals := 12 } : Room) s m #[(.ref a1)] below meth c s₁ [] 0 0 := Stand.of_body Bd
  have e0 : s₁.heap = h0 := by rw [← hh, Bd.state]; rfl
  have N0 := Fr.nil n0
  have pre0 : ∀ t, Steps p.tables e below (s₁.setTop (mkF m 0 #[.val (.ref a1)] [])) t → Steps p.tables e below (s₁.setTop (entryFrame m #[(.ref a1)] 1)) t := fun t k => castTop (ef_9 m a1) k
  obtain ⟨T1, X1, e1, st1⟩ := initO X0 hx hZ hown (hw _ (List.mem_of_getElem? (i := 70) rfl)) (hw _ (List.mem_of_getElem? (i := 7) rfl)) (hw _ (List.mem_of_getElem? (i := 8) rfl)) e0 (g := (mkF m 1 #[.val (.ref a1)] [(.ref a1)])) rfl (by rw [hml]; rfl) rfl (hb hby d9_1) (by decide) (W := 0) (by show 2 * 0 + _ ≤ _; exact Nat.le_of_eq rfl) (by decide)
  obtain ⟨fs, hr, hrun, hended, hW, hsame⟩ := X1.leave (v := none) (fun _ => rfl)
  refine ⟨_, _, pre0 _ ?_, hrun, hended, _, _, rfl, ?_, ⟨_, rfl⟩, hW, hsame.mono (by decide) (by decide)⟩
  · show Steps p.tables e below (s₁.setTop (mkF m 0 #[.val (.ref a1)] [])) _
    refine XS.aloadN X0.here hx rfl (hb hby d9_0) rfl rfl ?_
    show Steps p.tables e below (s₁.setTop (mkF m 1 #[.val (.ref a1)] [(.ref a1)])) _
    refine st1 _ ?_
    show Steps p.tables e below (T1.setTop (mkF m 4 #[.val (.ref a1)] [])) _
    exact X1.returnOut hx Bd.returns (hb hby d9_4) hr
  · show Q9 Z a1 h0 n0 _ T1.heap _
    rw [e1]
    exact ⟨rfl, N0, rfl⟩
def Q5 (Z : State) (a1 : Addr) (h0 : Heap) (n0 : Nat) (v : Option Value) (h : Heap) (L : List Loc) : Prop := v = none ∧ Fr n0 L ∧ Keep h0 h [a1] ∧ Exa Z h a1 "java/util/LinkedHashMap" ∧ Fld Z h a1 "java/util/LinkedHashMap" "putMode" "I" (.int (0 : Int32)) ∧ Fld Z h a1 "java/util/LinkedHashMap" "accessOrder" "Z" (.int (0 : Int32)) ∧ Fld Z h a1 "java/util/HashMap" "modCount" "I" (.int (0 : Int32)) ∧ Fld Z h a1 "java/util/LinkedHashMap" "head" "Ljava/util/LinkedHashMap$Entry;" .null
set_option maxRecDepth 65536 in
set_option maxHeartbeats 40000000 in
theorem rm5 (l : Launch) (Z : State) (a0 : Array Value) (hw : ∀ d ∈ tables_1, d.before a0 Z = true) (ws : List Jvm.Cond) (a1 : Addr) (h0 : Heap) (n0 : Nat) (Z0 : n0 ≤ h0.size) (F0 : Fld Z h0 a1 "java/util/HashMap" "loadFactor" "F" (.float (0 : UInt32))) (F1 : Fld Z h0 a1 "java/util/LinkedHashMap" "putMode" "I" (.int (0 : Int32))) (F2 : Fld Z h0 a1 "java/util/LinkedHashMap" "accessOrder" "Z" (.int (0 : Int32))) (F3 : Fld Z h0 a1 "java/util/HashMap" "modCount" "I" (.int (0 : Int32))) (F4 : Fld Z h0 a1 "java/util/LinkedHashMap" "head" "Ljava/util/LinkedHashMap$Entry;" .null) (E1 : Exa Z h0 a1 "java/util/LinkedHashMap") (g1 : n0 ≤ a1) :
    MetFree l (⟨"java/util/HashMap", "<init>", "()V"⟩ : MethodName) (head1 (Jvm.Cond.code (⟨"java/util/HashMap", "<init>", "()V"⟩ : MethodName) jdk_69_method_7_code 1 none :: ws) ({ frames := 2, cells := 0, slots := 0, locals := 24 } : Room)) (fun a U => a = #[(.ref a1)] ∧ Z.Warmed39 U.vm ∧ U.heap = h0) (fun _ _ _ _ _ => True) (fun _ U o U' => ∃ v L, o = .returned v ∧ Q5 Z a1 h0 n0 v U'.heap L ∧ FrameEnd U o U' L ({ frames := 2, cells := 0, slots := 0, locals := 24 } : Room).cells ({ frames := 2, cells := 0, slots := 0, locals := 24 } : Room).slots) := by
  refine MetFree.of_bodySF (plainFor_of_name pn_5) hisR ?_
  intro p e s m args below meth c s₁ Bd hml0 hP hK
  obtain ⟨rfl, hZ, hh⟩ := hP
  have hx := Bd.exec
  have hby := Bd.bytes
  have hml : c.maxLocals = 1 := hml0
  have hown : s.vm.findClass "java/util/HashMap" = some m.cls := findClass_of_methodNamed Bd.named
  have hnm := (name_of_methodNamed Bd.named Bd.method).1
  have X0 : Stand p l e ({ frames := 2, cells := 0, slots := 0, locals := 24 } : Room) s m #[(.ref a1)] below meth c s₁ [] 0 0 := Stand.of_body Bd
  have e0 : s₁.heap = h0 := by rw [← hh, Bd.state]; rfl
  have N0 := Fr.nil n0
  have pre0 : ∀ t, Steps p.tables e below (s₁.setTop (mkF m 0 #[.val (.ref a1)] [])) t → Steps p.tables e below (s₁.setTop (entryFrame m #[(.ref a1)] 1)) t := fun t k => castTop (ef_5 m a1) k
  have KK0 := Keep.refl h0 [a1]
  obtain ⟨_, _, ⟨T1, L1, k1, n1⟩, -, X1, ⟨Lc1, hQ1, l1, y1, z1⟩, st1⟩ := X0.specialBack hx (y := (⟨"java/util/AbstractMap", "<init>", "()V"⟩ : MethodName)) rfl hown (mvT hZ (hw _ (List.mem_of_getElem? (i := 30) rfl))) (mvT hZ (hw _ (List.mem_of_getElem? (i := 31) rfl))) (mvT hZ (hw _ (List.mem_of_getElem? (i := 35) rfl))) (by decide) (backOf (W := 0) (rm6 l Z a0 hw [] a1 h0 n0 Z0) hZ (hw _ (List.mem_of_getElem? (i := 35) rfl)) (hw _ (List.mem_of_getElem? (i := 34) rfl)) (by decide) (by decide)) (g := (mkF m 1 #[.val (.ref a1)] [(.ref a1)])) rfl (by rw [hml]; rfl) (Steps.refl _) (a := a1) (argsL := []) (rest := []) (lenOf pd_0 rfl) rfl (by show 2 * 0 + _ ≤ _; exact Nat.le_of_eq rfl) (hb hby d5_1) (fun _ _ => ⟨rfl, e0, (by decide : 0 + 0 ≤ _), (by decide : 0 + 0 ≤ _)⟩)
  dsimp only [Pt.U, Pt.locs, Pt.cells, Pt.slots] at X1 l1 y1 z1 st1 hQ1
  subst l1 y1 z1
  obtain ⟨rfl, N1q, e1q⟩ := hQ1
  have N1 := Fr.app N0 N1q
  obtain ⟨T2, h2, X2, e2, W2, st2⟩ := putF X1 hx hZ hown (host := "") (Or.inl (hw _ (List.mem_of_getElem? (i := 38) rfl))) Via.refl e1q F0 E1 (Or.inr ⟨(hw _ (List.mem_of_getElem? (i := 39) rfl)), rfl, hnm⟩) (hw _ (List.mem_of_getElem? (i := 19) rfl)) (ty := .float) (by decide) rfl rfl (g := (mkF m 7 #[.val (.ref a1)] [(.float (1061158912 : UInt32)), (.ref a1)])) rfl rfl (hb hby d5_7)
  have N2 := Fr.snoc X2 N1 g1
  have Fw2 := Fld.same W2 F0
  have F_a1_putMode_2 := F1.other W2 (Or.inr (slot_ne (Or.inl (hw _ (List.mem_of_getElem? (i := 41) rfl))) (Or.inr (hw _ (List.mem_of_getElem? (i := 39) rfl))) (by decide) (t := .int) (t' := .float) (by decide) (by decide)))
  have F_a1_accessOrder_2 := F2.other W2 (Or.inr (slot_ne (Or.inr (hw _ (List.mem_of_getElem? (i := 43) rfl))) (Or.inr (hw _ (List.mem_of_getElem? (i := 39) rfl))) (by decide) (t := .boolean) (t' := .float) (by decide) (by decide)))
  have F_a1_modCount_2 := F3.other W2 (Or.inr (slot_ne (Or.inl (hw _ (List.mem_of_getElem? (i := 142) rfl))) (Or.inr (hw _ (List.mem_of_getElem? (i := 39) rfl))) (by decide) (t := .int) (t' := .float) (by decide) (by decide)))
  have F_a1_head_2 := F4.other W2 (Or.inr (slot_ne (Or.inl (hw _ (List.mem_of_getElem? (i := 144) rfl))) (Or.inr (hw _ (List.mem_of_getElem? (i := 39) rfl))) (by decide) (t := (.object "java/util/LinkedHashMap$Entry")) (t' := .float) (by decide) (by decide)))
  have E_a1_2 := E1.wr W2
  have Zs3 := Nat.le_trans Z0 (Keep.of_wr W2).1
  have Kk2 := KK0.wr W2 (Or.inl (List.mem_of_getElem? (i := 0) rfl))
  obtain ⟨fs, hr, hrun, hended, hW, hsame⟩ := X2.leave (v := none) (fun _ => rfl)
  refine ⟨_, _, pre0 _ ?_, hrun, hended, _, _, rfl, ?_, ⟨_, rfl⟩, hW, hsame.mono (by decide) (by decide)⟩
  · show Steps p.tables e below (s₁.setTop (mkF m 0 #[.val (.ref a1)] [])) _
    refine XS.aloadN X0.here hx rfl (hb hby d5_0) rfl rfl ?_
    show Steps p.tables e below (s₁.setTop (mkF m 1 #[.val (.ref a1)] [(.ref a1)])) _
    refine st1.trans ?_
    show Steps p.tables e below (T1.setTop (mkF m 4 #[.val (.ref a1)] [])) _
    refine XS.aloadN X1.here hx rfl (hb hby d5_4) rfl rfl ?_
    show Steps p.tables e below (T1.setTop (mkF m 5 #[.val (.ref a1)] [(.ref a1)])) _
    refine X1.ldcFloatC hx hown (mvT hZ (hw _ (List.mem_of_getElem? (i := 37) rfl))) (g := (mkF m 5 #[.val (.ref a1)] [(.ref a1)])) rfl (hb hby d5_5) _ ?_
    show Steps p.tables e below (T1.setTop (mkF m 7 #[.val (.ref a1)] [(.float (1061158912 : UInt32)), (.ref a1)])) _
    refine st2 _ ?_
    show Steps p.tables e below (T2.setTop (mkF m 10 #[.val (.ref a1)] [])) _
    exact X2.returnOut hx Bd.returns (hb hby d5_10) hr
  · show Q5 Z a1 h0 n0 _ T2.heap _
    rw [e2]
    exact ⟨rfl, N2, Kk2, E_a1_2, F_a1_putMode_2, F_a1_accessOrder_2, F_a1_modCount_2, F_a1_head_2⟩
def Q4 (Z : State) (a1 : Addr) (h0 : Heap) (n0 : Nat) (v : Option Value) (h : Heap) (L : List Loc) : Prop := v = none ∧ Fr n0 L ∧ Keep h0 h [a1] ∧ Exa Z h a1 "java/util/LinkedHashMap" ∧ Fld Z h a1 "java/util/HashMap" "modCount" "I" (.int (0 : Int32)) ∧ Fld Z h a1 "java/util/LinkedHashMap" "head" "Ljava/util/LinkedHashMap$Entry;" .null
set_option maxRecDepth 65536 in
set_option maxHeartbeats 40000000 in
theorem rm4 (l : Launch) (Z : State) (a0 : Array Value) (hw : ∀ d ∈ tables_1, d.before a0 Z = true) (ws : List Jvm.Cond) (a1 : Addr) (h0 : Heap) (n0 : Nat) (Z0 : n0 ≤ h0.size) (F0 : Fld Z h0 a1 "java/util/HashMap" "loadFactor" "F" (.float (0 : UInt32))) (F1 : Fld Z h0 a1 "java/util/LinkedHashMap" "putMode" "I" (.int (0 : Int32))) (F2 : Fld Z h0 a1 "java/util/LinkedHashMap" "accessOrder" "Z" (.int (0 : Int32))) (F3 : Fld Z h0 a1 "java/util/HashMap" "modCount" "I" (.int (0 : Int32))) (F4 : Fld Z h0 a1 "java/util/LinkedHashMap" "head" "Ljava/util/LinkedHashMap$Entry;" .null) (E1 : Exa Z h0 a1 "java/util/LinkedHashMap") (g1 : n0 ≤ a1) :
    MetFree l (⟨"java/util/LinkedHashMap", "<init>", "()V"⟩ : MethodName) (head1 (Jvm.Cond.code (⟨"java/util/LinkedHashMap", "<init>", "()V"⟩ : MethodName) jdk_94_method_16_code 1 none :: ws) ({ frames := 3, cells := 0, slots := 0, locals := 36 } : Room)) (fun a U => a = #[(.ref a1)] ∧ Z.Warmed39 U.vm ∧ U.heap = h0) (fun _ _ _ _ _ => True) (fun _ U o U' => ∃ v L, o = .returned v ∧ Q4 Z a1 h0 n0 v U'.heap L ∧ FrameEnd U o U' L ({ frames := 3, cells := 0, slots := 0, locals := 36 } : Room).cells ({ frames := 3, cells := 0, slots := 0, locals := 36 } : Room).slots) := by
  refine MetFree.of_bodySF (plainFor_of_name pn_4) hisR ?_
  intro p e s m args below meth c s₁ Bd hml0 hP hK
  obtain ⟨rfl, hZ, hh⟩ := hP
  have hx := Bd.exec
  have hby := Bd.bytes
  have hml : c.maxLocals = 1 := hml0
  have hown : s.vm.findClass "java/util/LinkedHashMap" = some m.cls := findClass_of_methodNamed Bd.named
  have hnm := (name_of_methodNamed Bd.named Bd.method).1
  have X0 : Stand p l e ({ frames := 3, cells := 0, slots := 0, locals := 36 } : Room) s m #[(.ref a1)] below meth c s₁ [] 0 0 := Stand.of_body Bd
  have e0 : s₁.heap = h0 := by rw [← hh, Bd.state]; rfl
  have N0 := Fr.nil n0
  have pre0 : ∀ t, Steps p.tables e below (s₁.setTop (mkF m 0 #[.val (.ref a1)] [])) t → Steps p.tables e below (s₁.setTop (entryFrame m #[(.ref a1)] 1)) t := fun t k => castTop (ef_4 m a1) k
  have KK0 := Keep.refl h0 [a1]
  obtain ⟨_, _, ⟨T1, L1, k1, n1⟩, -, X1, ⟨Lc1, hQ1, l1, y1, z1⟩, st1⟩ := X0.specialBack hx (y := (⟨"java/util/HashMap", "<init>", "()V"⟩ : MethodName)) rfl hown (mvT hZ (hw _ (List.mem_of_getElem? (i := 24) rfl))) (mvT hZ (hw _ (List.mem_of_getElem? (i := 25) rfl))) (mvT hZ (hw _ (List.mem_of_getElem? (i := 29) rfl))) (by decide) (backOf (W := 0) (rm5 l Z a0 hw [] a1 h0 n0 Z0 F0 F1 F2 F3 F4 E1 g1) hZ (hw _ (List.mem_of_getElem? (i := 29) rfl)) (hw _ (List.mem_of_getElem? (i := 28) rfl)) (by decide) (by decide)) (g := (mkF m 1 #[.val (.ref a1)] [(.ref a1)])) rfl (by rw [hml]; rfl) (Steps.refl _) (a := a1) (argsL := []) (rest := []) (lenOf pd_0 rfl) rfl (by show 2 * 0 + _ ≤ _; exact Nat.le_of_eq rfl) (hb hby d4_1) (fun _ _ => ⟨rfl, e0, (by decide : 0 + 0 ≤ _), (by decide : 0 + 0 ≤ _)⟩)
  dsimp only [Pt.U, Pt.locs, Pt.cells, Pt.slots] at X1 l1 y1 z1 st1 hQ1
  subst l1 y1 z1
  obtain ⟨rfl, N1q, K1q, E1q, F0_1q, F1_1q, F2_1q, F3_1q⟩ := hQ1
  have N1 := Fr.app N0 N1q
  have E_a1_1 := E1.keep K1q
  have Zs2 := Nat.le_trans Z0 K1q.1
  have Kk1 := KK0.trans K1q (allS (Or.inl (List.mem_of_getElem? (i := 0) rfl)) all0)
  obtain ⟨T3, h3, X3, e3, W3, st3⟩ := putF X1 hx hZ hown (host := "") (Or.inl (hw _ (List.mem_of_getElem? (i := 40) rfl))) Via.refl rfl F0_1q E1q (Or.inl (hw _ (List.mem_of_getElem? (i := 41) rfl))) (hw _ (List.mem_of_getElem? (i := 19) rfl)) (ty := .int) (by decide) rfl rfl (g := (mkF m 6 #[.val (.ref a1)] [(.int (0 : Int32)), (.ref a1)])) rfl rfl (hb hby d4_6)
  have N3 := Fr.snoc X3 N1 g1
  have Fw3 := Fld.same W3 F0_1q
  have E_a1_3 := E1q.wr W3
  have F_a1_accessOrder_3 := F1_1q.other W3 (Or.inr (slot_ne (Or.inr (hw _ (List.mem_of_getElem? (i := 43) rfl))) (Or.inl (hw _ (List.mem_of_getElem? (i := 41) rfl))) (by decide) (t := .boolean) (t' := .int) (by decide) (by decide)))
  have F_a1_modCount_3 := F2_1q.other W3 (Or.inr (slot_ne (Or.inl (hw _ (List.mem_of_getElem? (i := 142) rfl))) (Or.inl (hw _ (List.mem_of_getElem? (i := 41) rfl))) (by decide) (t := .int) (t' := .int) (by decide) (by decide)))
  have F_a1_head_3 := F3_1q.other W3 (Or.inr (slot_ne (Or.inl (hw _ (List.mem_of_getElem? (i := 144) rfl))) (Or.inl (hw _ (List.mem_of_getElem? (i := 41) rfl))) (by decide) (t := (.object "java/util/LinkedHashMap$Entry")) (t' := .int) (by decide) (by decide)))
  have Zs4 := Nat.le_trans Zs2 (Keep.of_wr W3).1
  have Kk3 := Kk1.wr W3 (Or.inl (List.mem_of_getElem? (i := 0) rfl))
  obtain ⟨T5, h5, X5, e5, W5, st5⟩ := putFN X3 hx hZ hown (hw _ (List.mem_of_getElem? (i := 42) rfl)) Via.refl e3 F_a1_accessOrder_3 E_a1_3 (Or.inr ⟨(hw _ (List.mem_of_getElem? (i := 43) rfl)), rfl, hnm⟩) (hw _ (List.mem_of_getElem? (i := 19) rfl)) (ty := .boolean) (v' := (.int (nar .boolean (0 : Int32)))) (by decide) rfl (fits_nar_bool _) (g := (mkF m 11 #[.val (.ref a1)] [(.int (0 : Int32)), (.ref a1)])) rfl rfl (hb hby d4_11)
  have N5 := Fr.snoc X5 N3 g1
  have Fw5 := Fld.same W5 F_a1_accessOrder_3
  have E_a1_5 := E_a1_3.wr W5
  have F_a1_putMode_5 := Fw3.other W5 (Or.inr (slot_ne (Or.inl (hw _ (List.mem_of_getElem? (i := 41) rfl))) (Or.inr (hw _ (List.mem_of_getElem? (i := 43) rfl))) (by decide) (t := .int) (t' := .boolean) (by decide) (by decide)))
  have F_a1_modCount_5 := F_a1_modCount_3.other W5 (Or.inr (slot_ne (Or.inl (hw _ (List.mem_of_getElem? (i := 142) rfl))) (Or.inr (hw _ (List.mem_of_getElem? (i := 43) rfl))) (by decide) (t := .int) (t' := .boolean) (by decide) (by decide)))
  have F_a1_head_5 := F_a1_head_3.other W5 (Or.inr (slot_ne (Or.inl (hw _ (List.mem_of_getElem? (i := 144) rfl))) (Or.inr (hw _ (List.mem_of_getElem? (i := 43) rfl))) (by decide) (t := (.object "java/util/LinkedHashMap$Entry")) (t' := .boolean) (by decide) (by decide)))
  have Zs6 := Nat.le_trans Zs4 (Keep.of_wr W5).1
  have Kk5 := Kk3.wr W5 (Or.inl (List.mem_of_getElem? (i := 0) rfl))
  obtain ⟨fs, hr, hrun, hended, hW, hsame⟩ := X5.leave (v := none) (fun _ => rfl)
  refine ⟨_, _, pre0 _ ?_, hrun, hended, _, _, rfl, ?_, ⟨_, rfl⟩, hW, hsame.mono (by decide) (by decide)⟩
  · show Steps p.tables e below (s₁.setTop (mkF m 0 #[.val (.ref a1)] [])) _
    refine XS.aloadN X0.here hx rfl (hb hby d4_0) rfl rfl ?_
    show Steps p.tables e below (s₁.setTop (mkF m 1 #[.val (.ref a1)] [(.ref a1)])) _
    refine st1.trans ?_
    show Steps p.tables e below (T1.setTop (mkF m 4 #[.val (.ref a1)] [])) _
    refine XS.aloadN X1.here hx rfl (hb hby d4_4) rfl rfl ?_
    show Steps p.tables e below (T1.setTop (mkF m 5 #[.val (.ref a1)] [(.ref a1)])) _
    refine XS.iconst X1.here hx rfl (hb hby d4_5) ?_
    show Steps p.tables e below (T1.setTop (mkF m 6 #[.val (.ref a1)] [(.int (0 : Int32)), (.ref a1)])) _
    refine st3 _ ?_
    show Steps p.tables e below (T3.setTop (mkF m 9 #[.val (.ref a1)] [])) _
    refine XS.aloadN X3.here hx rfl (hb hby d4_9) rfl rfl ?_
    show Steps p.tables e below (T3.setTop (mkF m 10 #[.val (.ref a1)] [(.ref a1)])) _
    refine XS.iconst X3.here hx rfl (hb hby d4_10) ?_
    show Steps p.tables e below (T3.setTop (mkF m 11 #[.val (.ref a1)] [(.int (0 : Int32)), (.ref a1)])) _
    refine st5 _ ?_
    show Steps p.tables e below (T5.setTop (mkF m 14 #[.val (.ref a1)] [])) _
    exact X5.returnOut hx Bd.returns (hb hby d4_14) hr
  · show Q4 Z a1 h0 n0 _ T5.heap _
    rw [e5]
    exact ⟨rfl, N5, Kk5, E_a1_5, F_a1_modCount_5, F_a1_head_5⟩
def Q3 (Z : State) (a1 : Addr) (h0 : Heap) (n0 : Nat) (v : Option Value) (h : Heap) (L : List Loc) : Prop := v = none ∧ Fr n0 L ∧ Keep h0 h [a1] ∧ ∀ lo, lo ≤ a1 → own_part Z h lo a1
set_option maxRecDepth 65536 in
set_option maxHeartbeats 40000000 in
theorem rm3 (l : Launch) (Z : State) (a0 : Array Value) (hw : ∀ d ∈ tables_1, d.before a0 Z = true) (ws : List Jvm.Cond) (a1 : Addr) (h0 : Heap) (n0 : Nat) (Z0 : n0 ≤ h0.size) (F0 : Fld Z h0 a1 "com/example/tideline/tideline/session/FetchSession$Partitions" "byTopic" "Ljava/util/Map;" .null) (E1 : Exa Z h0 a1 "com/example/tideline/tideline/session/FetchSession$Partitions") (g1 : n0 ≤ a1) :
    MetFree l (⟨"com/example/tideline/tideline/session/FetchSession$Partitions", "<init>", "()V"⟩ : MethodName) (head1 (Jvm.Cond.code (⟨"com/example/tideline/tideline/session/FetchSession$Partitions", "<init>", "()V"⟩ : MethodName) prog_248_method_1_code 1 none :: ws) ({ frames := 4, cells := 1, slots := 12, locals := 50 } : Room)) (fun a U => a = #[(.ref a1)] ∧ Z.Warmed39 U.vm ∧ U.heap = h0) (fun _ _ _ _ _ => True) (fun _ U o U' => ∃ v L, o = .returned v ∧ Q3 Z a1 h0 n0 v U'.heap L ∧ FrameEnd U o U' L ({ frames := 4, cells := 1, slots := 12, locals := 50 } : Room).cells ({ frames := 4, cells := 1, slots := 12, locals := 50 } : Room).slots) := by
  refine MetFree.of_bodySF (plainFor_of_name pn_3) hisR ?_
  intro p e s m args below meth c s₁ Bd hml0 hP hK
  obtain ⟨rfl, hZ, hh⟩ := hP
  have hx := Bd.exec
  have hby := Bd.bytes
  have hml : c.maxLocals = 1 := hml0
  have hown : s.vm.findClass "com/example/tideline/tideline/session/FetchSession$Partitions" = some m.cls := findClass_of_methodNamed Bd.named
  have hnm := (name_of_methodNamed Bd.named Bd.method).1
  have X0 : Stand p l e ({ frames := 4, cells := 1, slots := 12, locals := 50 } : Room) s m #[(.ref a1)] below meth c s₁ [] 0 0 := Stand.of_body Bd
  have e0 : s₁.heap = h0 := by rw [← hh, Bd.state]; rfl
  have N0 := Fr.nil n0
  have pre0 : ∀ t, Steps p.tables e below (s₁.setTop (mkF m 0 #[.val (.ref a1)] [])) t → Steps p.tables e below (s₁.setTop (entryFrame m #[(.ref a1)] 1)) t := fun t k => castTop (ef_3 m a1) k
  have KK0 := Keep.refl h0 [a1]
  have la1 := E1.lt
  obtain ⟨T1, X1, e1, st1⟩ := initO X0 hx hZ hown (hw _ (List.mem_of_getElem? (i := 17) rfl)) (hw _ (List.mem_of_getElem? (i := 7) rfl)) (hw _ (List.mem_of_getElem? (i := 8) rfl)) e0 (g := (mkF m 1 #[.val (.ref a1)] [(.ref a1)])) rfl (by rw [hml]; rfl) rfl (hb hby d3_1) (by decide) (W := 0) (by show 2 * 0 + _ ≤ _; exact Nat.le_of_eq rfl) (by decide)
  obtain ⟨T2, h2, X2, e2, E2, A2, D2, -, st2⟩ := newO X1 hx hZ hown (hw _ (List.mem_of_getElem? (i := 18) rfl)) (hw _ (List.mem_of_getElem? (i := 19) rfl)) (hw _ (List.mem_of_getElem? (i := 20) rfl)) e1 (g := (mkF m 5 #[.val (.ref a1)] [(.ref a1)])) rfl (hb hby d3_5) (by decide) (by decide)
  obtain ⟨b2, g2⟩ : ∃ z, z = h0.size := ⟨_, rfl⟩
  rw [← g2] at A2 D2 st2
  have ne_a1_b2 : a1 ≠ b2 := Nat.ne_of_lt (Nat.lt_of_lt_of_le F0.lt (Nat.le_of_eq g2.symm))
  have g_b2 : n0 ≤ b2 := Nat.le_trans Z0 (Nat.le_of_eq g2.symm)
  have sz_b2 : h0.size ≤ b2 := Nat.le_trans KK0.1 (Nat.le_of_eq g2.symm)
  have F_a1_byTopic_2 := F0.ext E2
  have E_a1_2 := E1.ext E2
  have Zs3 := Nat.le_trans Z0 E2.1
  have Kk2 := KK0.ext E2
  have F_loadFactor_b2 : Fld Z h2 b2 "java/util/HashMap" "loadFactor" "F" (.float (0 : UInt32)) := D2 (Or.inr (hw _ (List.mem_of_getElem? (i := 39) rfl))) (ty := .float) (by decide)
  have F_putMode_b2 : Fld Z h2 b2 "java/util/LinkedHashMap" "putMode" "I" (.int (0 : Int32)) := D2 (Or.inl (hw _ (List.mem_of_getElem? (i := 41) rfl))) (ty := .int) (by decide)
  have F_accessOrder_b2 : Fld Z h2 b2 "java/util/LinkedHashMap" "accessOrder" "Z" (.int (0 : Int32)) := D2 (Or.inr (hw _ (List.mem_of_getElem? (i := 43) rfl))) (ty := .boolean) (by decide)
  have F_modCount_b2 : Fld Z h2 b2 "java/util/HashMap" "modCount" "I" (.int (0 : Int32)) := D2 (Or.inl (hw _ (List.mem_of_getElem? (i := 142) rfl))) (ty := .int) (by decide)
  have F_head_b2 : Fld Z h2 b2 "java/util/LinkedHashMap" "head" "Ljava/util/LinkedHashMap$Entry;" .null := D2 (Or.inl (hw _ (List.mem_of_getElem? (i := 144) rfl))) (ty := (.object "java/util/LinkedHashMap$Entry")) (by decide)
  obtain ⟨_, _, ⟨T4, L4, k4, n4⟩, -, X4, ⟨Lc4, hQ4, l4, y4, z4⟩, st4⟩ := X2.specialBack hx (y := (⟨"java/util/LinkedHashMap", "<init>", "()V"⟩ : MethodName)) rfl hown (mvT hZ (hw _ (List.mem_of_getElem? (i := 21) rfl))) (mvT hZ (hw _ (List.mem_of_getElem? (i := 22) rfl))) (mvT hZ (hw _ (List.mem_of_getElem? (i := 23) rfl))) (by decide) (backOf (W := 2) (rm4 l Z a0 hw [] b2 h2 n0 Zs3 F_loadFactor_b2 F_putMode_b2 F_accessOrder_b2 F_modCount_b2 F_head_b2 A2 g_b2) hZ (hw _ (List.mem_of_getElem? (i := 23) rfl)) (hw _ (List.mem_of_getElem? (i := 20) rfl)) (by decide) (by decide)) (g := (mkF m 9 #[.val (.ref a1)] [(.ref b2), (.ref b2), (.ref a1)])) rfl (by rw [hml]; rfl) (Steps.refl _) (a := b2) (argsL := []) (rest := [(.ref b2), (.ref a1)]) (lenOf pd_0 rfl) rfl (by show 2 * 0 + _ ≤ _; exact Nat.le_of_eq rfl) (hb hby d3_9) (fun _ _ => ⟨rfl, e2, (by decide : 1 + 0 ≤ _), (by decide : 12 + 0 ≤ _)⟩)
  dsimp only [Pt.U, Pt.locs, Pt.cells, Pt.slots] at X4 l4 y4 z4 st4 hQ4
  subst l4 y4 z4
  obtain ⟨rfl, N4q, K4q, E4q, F0_4q, F1_4q⟩ := hQ4
  have N4 := Fr.app N0 N4q
  have F_a1_byTopic_4 := F_a1_byTopic_2.keep K4q (ninS ne_a1_b2 nin0)
  have E_a1_4 := E_a1_2.keep K4q
  have E_b2_4 := A2.keep K4q
  have Zs5 := Nat.le_trans Zs3 K4q.1
  have Kk4 := Kk2.trans K4q (allS (Or.inr sz_b2) all0)
  obtain ⟨T6, h6, X6, e6, W6, st6⟩ := putF X4 hx hZ hown (host := "") (Or.inl (hw _ (List.mem_of_getElem? (i := 44) rfl))) Via.refl rfl F_a1_byTopic_4 E_a1_4 (Or.inr ⟨(hw _ (List.mem_of_getElem? (i := 45) rfl)), rfl, hnm⟩) (hw _ (List.mem_of_getElem? (i := 12) rfl)) (ty := (.object "java/util/Map")) (by decide) rfl rfl (g := (mkF m 12 #[.val (.ref a1)] [(.ref b2), (.ref a1)])) rfl rfl (hb hby d3_12)
  have N6 := Fr.snoc X6 N4 g1
  have Fw6 := Fld.same W6 F_a1_byTopic_4
  have E_a1_6 := E_a1_4.wr W6
  have E_b2_6 := E4q.wr W6
  have F_b2_modCount_6 := F0_4q.other W6 (Or.inl (Ne.symm ne_a1_b2))
  have F_b2_head_6 := F1_4q.other W6 (Or.inl (Ne.symm ne_a1_b2))
  have Zs7 := Nat.le_trans Zs5 (Keep.of_wr W6).1
  have Kk6 := Kk4.wr W6 (Or.inl (List.mem_of_getElem? (i := 0) rfl))
  obtain ⟨fs, hr, hrun, hended, hW, hsame⟩ := X6.leave (v := none) (fun _ => rfl)
  refine ⟨_, _, pre0 _ ?_, hrun, hended, _, _, rfl, ?_, ⟨_, rfl⟩, hW, hsame.mono (by decide) (by decide)⟩
  · show Steps p.tables e below (s₁.setTop (mkF m 0 #[.val (.ref a1)] [])) _
    refine XS.aloadN X0.here hx rfl (hb hby d3_0) rfl rfl ?_
    show Steps p.tables e below (s₁.setTop (mkF m 1 #[.val (.ref a1)] [(.ref a1)])) _
    refine st1 _ ?_
    show Steps p.tables e below (T1.setTop (mkF m 4 #[.val (.ref a1)] [])) _
    refine XS.aloadN X1.here hx rfl (hb hby d3_4) rfl rfl ?_
    show Steps p.tables e below (T1.setTop (mkF m 5 #[.val (.ref a1)] [(.ref a1)])) _
    refine st2 _ ?_
    show Steps p.tables e below (T2.setTop (mkF m 8 #[.val (.ref a1)] [(.ref b2), (.ref a1)])) _
    refine XS.dup X2.here hx rfl (hb hby d3_8) rfl rfl ?_
    show Steps p.tables e below (T2.setTop (mkF m 9 #[.val (.ref a1)] [(.ref b2), (.ref b2), (.ref a1)])) _
    refine st4.trans ?_
    show Steps p.tables e below (T4.setTop (mkF m 12 #[.val (.ref a1)] [(.ref b2), (.ref a1)])) _
    refine st6 _ ?_
    show Steps p.tables e below (T6.setTop (mkF m 15 #[.val (.ref a1)] [])) _
    exact X6.returnOut hx Bd.returns (hb hby d3_15) hr
  · show Q3 Z a1 h0 n0 _ T6.heap _
    rw [e6]
    exact ⟨rfl, N6, Kk6, fun lo hlo => ⟨hlo, E_a1_6, b2, Nat.le_trans hlo (Nat.le_of_lt (Nat.lt_of_lt_of_le la1 sz_b2)), Fw6, E_b2_6, F_b2_modCount_6, F_b2_head_6⟩⟩
def Q1 (Z : State) (a1 : Addr) (h0 : Heap) (n0 : Nat) (v : Option Value) (h : Heap) (L : List Loc) : Prop := ∃ x y z : Addr, v = none ∧ Fr n0 L ∧ Keep h0 h [a1] ∧ Exa Z h a1 "com/example/tideline/tideline/session/FetcherSession" ∧ Fld Z h a1 "com/example/tideline/tideline/session/FetcherSession" "epoch" "I" (.int (0 : Int32)) ∧ Fld Z h a1 "com/example/tideline/tideline/session/FetcherSession" "held" "Lcom/example/tideline/tideline/session/FetchSession$Partitions;" (.ref x) ∧ Fld Z h a1 "com/example/tideline/tideline/session/FetcherSession" "listing" "Lcom/example/tideline/tideline/session/FetchSession$Partitions;" (.ref y) ∧ Fld Z h a1 "com/example/tideline/tideline/session/FetcherSession" "forgetting" "Lcom/example/tideline/tideline/session/FetchSession$Partitions;" (.ref z) ∧ Fld Z h a1 "com/example/tideline/tideline/session/FetcherSession" "id" "I" (.int (0 : Int32)) ∧ Fld Z h a1 "com/example/tideline/tideline/session/FetcherSession" "pending" "Lcom/example/tideline/tideline/session/FetcherSession$Request;" .null
set_option maxRecDepth 65536 in
set_option maxHeartbeats 40000000 in
theorem rm1 (l : Launch) (Z : State) (a0 : Array Value) (hw : ∀ d ∈ tables_1, d.before a0 Z = true) (ws : List Jvm.Cond) (a1 : Addr) (h0 : Heap) (n0 : Nat) (Z0 : n0 ≤ h0.size) (F0 : Fld Z h0 a1 "com/example/tideline/tideline/session/FetcherSession" "epoch" "I" (.int (0 : Int32))) (F1 : Fld Z h0 a1 "com/example/tideline/tideline/session/FetcherSession" "held" "Lcom/example/tideline/tideline/session/FetchSession$Partitions;" .null) (F2 : Fld Z h0 a1 "com/example/tideline/tideline/session/FetcherSession" "listing" "Lcom/example/tideline/tideline/session/FetchSession$Partitions;" .null) (F3 : Fld Z h0 a1 "com/example/tideline/tideline/session/FetcherSession" "forgetting" "Lcom/example/tideline/tideline/session/FetchSession$Partitions;" .null) (F4 : Fld Z h0 a1 "com/example/tideline/tideline/session/FetcherSession" "id" "I" (.int (0 : Int32))) (F5 : Fld Z h0 a1 "com/example/tideline/tideline/session/FetcherSession" "pending" "Lcom/example/tideline/tideline/session/FetcherSession$Request;" .null) (E1 : Exa Z h0 a1 "com/example/tideline/tideline/session/FetcherSession") (g1 : n0 ≤ a1) :
    MetFree l (⟨"com/example/tideline/tideline/session/FetcherSession", "<init>", "()V"⟩ : MethodName) (head1 (Jvm.Cond.code (⟨"com/example/tideline/tideline/session/FetcherSession", "<init>", "()V"⟩ : MethodName) prog_253_method_1_code 1 none :: ws) ({ frames := 5, cells := 6, slots := 42, locals := 64 } : Room)) (fun a U => a = #[(.ref a1)] ∧ Z.Warmed39 U.vm ∧ U.heap = h0) (fun _ _ _ _ _ => True) (fun _ U o U' => ∃ v L, o = .returned v ∧ Q1 Z a1 h0 n0 v U'.heap L ∧ FrameEnd U o U' L ({ frames := 5, cells := 6, slots := 42, locals := 64 } : Room).cells ({ frames := 5, cells := 6, slots := 42, locals := 64 } : Room).slots) := by
  refine MetFree.of_bodySF (plainFor_of_name pn_1) hisR ?_
  intro p e s m args below meth c s₁ Bd hml0 hP hK
  obtain ⟨rfl, hZ, hh⟩ := hP
  have hx := Bd.exec
  have hby := Bd.bytes
  have hml : c.maxLocals = 1 := hml0
  have hown : s.vm.findClass "com/example/tideline/tideline/session/FetcherSession" = some m.cls := findClass_of_methodNamed Bd.named
  have hnm := (name_of_methodNamed Bd.named Bd.method).1
  have X0 : Stand p l e ({ frames := 5, cells := 6, slots := 42, locals := 64 } : Room) s m #[(.ref a1)] below meth c s₁ [] 0 0 := Stand.of_body Bd
  have e0 : s₁.heap = h0 := by rw [← hh, Bd.state]; rfl
  have N0 := Fr.nil n0
  have pre0 : ∀ t, Steps p.tables e below (s₁.setTop (mkF m 0 #[.val (.ref a1)] [])) t → Steps p.tables e below (s₁.setTop (entryFrame m #[(.ref a1)] 1)) t := fun t k => castTop (ef_1 m a1) k
  have KK0 := Keep.refl h0 [a1]
  obtain ⟨T1, X1, e1, st1⟩ := initO X0 hx hZ hown (hw _ (List.mem_of_getElem? (i := 6) rfl)) (hw _ (List.mem_of_getElem? (i := 7) rfl)) (hw _ (List.mem_of_getElem? (i := 8) rfl)) e0 (g := (mkF m 1 #[.val (.ref a1)] [(.ref a1)])) rfl (by rw [hml]; rfl) rfl (hb hby d1_1) (by decide) (W := 0) (by show 2 * 0 + _ ≤ _; exact Nat.le_of_eq rfl) (by decide)
  obtain ⟨T2, h2, X2, e2, W2, st2⟩ := putF X1 hx hZ hown (host := "") (Or.inl (hw _ (List.mem_of_getElem? (i := 9) rfl))) Via.refl e1 F0 E1 (Or.inl (hw _ (List.mem_of_getElem? (i := 10) rfl))) (hw _ (List.mem_of_getElem? (i := 1) rfl)) (ty := .int) (by decide) rfl rfl (g := (mkF m 6 #[.val (.ref a1)] [(.int (0 : Int32)), (.ref a1)])) rfl rfl (hb hby d1_6)
  have N2 := Fr.snoc X2 N0 g1
  have Fw2 := Fld.same W2 F0
  have F_a1_held_2 := F1.other W2 (Or.inr (slot_ne (Or.inl (hw _ (List.mem_of_getElem? (i := 47) rfl))) (Or.inl (hw _ (List.mem_of_getElem? (i := 10) rfl))) (by decide) (t := (.object "com/example/tideline/tideline/session/FetchSession$Partitions")) (t' := .int) (by decide) (by decide)))
  have F_a1_listing_2 := F2.other W2 (Or.inr (slot_ne (Or.inl (hw _ (List.mem_of_getElem? (i := 49) rfl))) (Or.inl (hw _ (List.mem_of_getElem? (i := 10) rfl))) (by decide) (t := (.object "com/example/tideline/tideline/session/FetchSession$Partitions")) (t' := .int) (by decide) (by decide)))
  have F_a1_forgetting_2 := F3.other W2 (Or.inr (slot_ne (Or.inl (hw _ (List.mem_of_getElem? (i := 51) rfl))) (Or.inl (hw _ (List.mem_of_getElem? (i := 10) rfl))) (by decide) (t := (.object "com/example/tideline/tideline/session/FetchSession$Partitions")) (t' := .int) (by decide) (by decide)))
  have F_a1_id_2 := F4.other W2 (Or.inr (slot_ne (Or.inl (hw _ (List.mem_of_getElem? (i := 61) rfl))) (Or.inl (hw _ (List.mem_of_getElem? (i := 10) rfl))) (by decide) (t := .int) (t' := .int) (by decide) (by decide)))
  have F_a1_pending_2 := F5.other W2 (Or.inr (slot_ne (Or.inl (hw _ (List.mem_of_getElem? (i := 80) rfl))) (Or.inl (hw _ (List.mem_of_getElem? (i := 10) rfl))) (by decide) (t := (.object "com/example/tideline/tideline/session/FetcherSession$Request")) (t' := .int) (by decide) (by decide)))
  have E_a1_2 := E1.wr W2
  have Zs3 := Nat.le_trans Z0 (Keep.of_wr W2).1
  have Kk2 := KK0.wr W2 (Or.inl (List.mem_of_getElem? (i := 0) rfl))
  obtain ⟨T4, h4, X4, e4, E4, A4, D4, -, st4⟩ := newO X2 hx hZ hown (hw _ (List.mem_of_getElem? (i := 11) rfl)) (hw _ (List.mem_of_getElem? (i := 12) rfl)) (hw _ (List.mem_of_getElem? (i := 13) rfl)) e2 (g := (mkF m 10 #[.val (.ref a1)] [(.ref a1)])) rfl (hb hby d1_10) (by decide) (by decide)
  obtain ⟨b4, g4⟩ : ∃ z, z = h2.size := ⟨_, rfl⟩
  rw [← g4] at A4 D4 st4
  have ne_a1_b4 : a1 ≠ b4 := Nat.ne_of_lt (Nat.lt_of_lt_of_le Fw2.lt (Nat.le_of_eq g4.symm))
  have g_b4 : n0 ≤ b4 := Nat.le_trans Zs3 (Nat.le_of_eq g4.symm)
  have sz_b4 : h0.size ≤ b4 := Nat.le_trans Kk2.1 (Nat.le_of_eq g4.symm)
  have F_a1_epoch_4 := Fw2.ext E4
  have F_a1_held_4 := F_a1_held_2.ext E4
  have F_a1_listing_4 := F_a1_listing_2.ext E4
  have F_a1_forgetting_4 := F_a1_forgetting_2.ext E4
  have F_a1_id_4 := F_a1_id_2.ext E4
  have F_a1_pending_4 := F_a1_pending_2.ext E4
  have E_a1_4 := E_a1_2.ext E4
  have Zs5 := Nat.le_trans Zs3 E4.1
  have Kk4 := Kk2.ext E4
  have F_byTopic_b4 : Fld Z h4 b4 "com/example/tideline/tideline/session/FetchSession$Partitions" "byTopic" "Ljava/util/Map;" .null := D4 (Or.inr (hw _ (List.mem_of_getElem? (i := 45) rfl))) (ty := (.object "java/util/Map")) (by decide)
  obtain ⟨_, _, ⟨T6, L6, k6, n6⟩, -, X6, ⟨Lc6, hQ6, l6, y6, z6⟩, st6⟩ := X4.specialBack hx (y := (⟨"com/example/tideline/tideline/session/FetchSession$Partitions", "<init>", "()V"⟩ : MethodName)) rfl hown (mvT hZ (hw _ (List.mem_of_getElem? (i := 14) rfl))) (mvT hZ (hw _ (List.mem_of_getElem? (i := 15) rfl))) (mvT hZ (hw _ (List.mem_of_getElem? (i := 16) rfl))) (by decide) (backOf (W := 2) (rm3 l Z a0 hw [] b4 h4 n0 Zs5 F_byTopic_b4 A4 g_b4) hZ (hw _ (List.mem_of_getElem? (i := 16) rfl)) (hw _ (List.mem_of_getElem? (i := 13) rfl)) (by decide) (by decide)) (g := (mkF m 14 #[.val (.ref a1)] [(.ref b4), (.ref b4), (.ref a1)])) rfl (by rw [hml]; rfl) (Steps.refl _) (a := b4) (argsL := []) (rest := [(.ref b4), (.ref a1)]) (lenOf pd_0 rfl) rfl (by show 2 * 0 + _ ≤ _; exact Nat.le_of_eq rfl) (hb hby d1_14) (fun _ _ => ⟨rfl, e4, (by decide : 1 + 1 ≤ _), (by decide : 2 + 12 ≤ _)⟩)
  dsimp only [Pt.U, Pt.locs, Pt.cells, Pt.slots] at X6 l6 y6 z6 st6 hQ6
  subst l6 y6 z6
  obtain ⟨rfl, N6q, K6q, P6q⟩ := hQ6
  have N6 := Fr.app N2 N6q
  have F_a1_epoch_6 := F_a1_epoch_4.keep K6q (ninS ne_a1_b4 nin0)
  have F_a1_held_6 := F_a1_held_4.keep K6q (ninS ne_a1_b4 nin0)
  have F_a1_listing_6 := F_a1_listing_4.keep K6q (ninS ne_a1_b4 nin0)
  have F_a1_forgetting_6 := F_a1_forgetting_4.keep K6q (ninS ne_a1_b4 nin0)
  have F_a1_id_6 := F_a1_id_4.keep K6q (ninS ne_a1_b4 nin0)
  have F_a1_pending_6 := F_a1_pending_4.keep K6q (ninS ne_a1_b4 nin0)
  have E_a1_6 := E_a1_4.keep K6q
  have E_b4_6 := A4.keep K6q
  have Zs7 := Nat.le_trans Zs5 K6q.1
  have Kk6 := Kk4.trans K6q (allS (Or.inr sz_b4) all0)
  obtain ⟨T8, h8, X8, e8, W8, st8⟩ := putF X6 hx hZ hown (host := "") (Or.inl (hw _ (List.mem_of_getElem? (i := 46) rfl))) Via.refl rfl F_a1_held_6 E_a1_6 (Or.inl (hw _ (List.mem_of_getElem? (i := 47) rfl))) (hw _ (List.mem_of_getElem? (i := 1) rfl)) (ty := (.object "com/example/tideline/tideline/session/FetchSession$Partitions")) (by decide) rfl rfl (g := (mkF m 17 #[.val (.ref a1)] [(.ref b4), (.ref a1)])) rfl rfl (hb hby d1_17)
  have N8 := Fr.snoc X8 N6 g1
  have Fw8 := Fld.same W8 F_a1_held_6
  have F_a1_epoch_8 := F_a1_epoch_6.other W8 (Or.inr (slot_ne (Or.inl (hw _ (List.mem_of_getElem? (i := 10) rfl))) (Or.inl (hw _ (List.mem_of_getElem? (i := 47) rfl))) (by decide) (t := .int) (t' := (.object "com/example/tideline/tideline/session/FetchSession$Partitions")) (by decide) (by decide)))
  have F_a1_listing_8 := F_a1_listing_6.other W8 (Or.inr (slot_ne (Or.inl (hw _ (List.mem_of_getElem? (i := 49) rfl))) (Or.inl (hw _ (List.mem_of_getElem? (i := 47) rfl))) (by decide) (t := (.object "com/example/tideline/tideline/session/FetchSession$Partitions")) (t' := (.object "com/example/tideline/tideline/session/FetchSession$Partitions")) (by decide) (by decide)))
  have F_a1_forgetting_8 := F_a1_forgetting_6.other W8 (Or.inr (slot_ne (Or.inl (hw _ (List.mem_of_getElem? (i := 51) rfl))) (Or.inl (hw _ (List.mem_of_getElem? (i := 47) rfl))) (by decide) (t := (.object "com/example/tideline/tideline/session/FetchSession$Partitions")) (t' := (.object "com/example/tideline/tideline/session/FetchSession$Partitions")) (by decide) (by decide)))
  have F_a1_id_8 := F_a1_id_6.other W8 (Or.inr (slot_ne (Or.inl (hw _ (List.mem_of_getElem? (i := 61) rfl))) (Or.inl (hw _ (List.mem_of_getElem? (i := 47) rfl))) (by decide) (t := .int) (t' := (.object "com/example/tideline/tideline/session/FetchSession$Partitions")) (by decide) (by decide)))
  have F_a1_pending_8 := F_a1_pending_6.other W8 (Or.inr (slot_ne (Or.inl (hw _ (List.mem_of_getElem? (i := 80) rfl))) (Or.inl (hw _ (List.mem_of_getElem? (i := 47) rfl))) (by decide) (t := (.object "com/example/tideline/tideline/session/FetcherSession$Request")) (t' := (.object "com/example/tideline/tideline/session/FetchSession$Partitions")) (by decide) (by decide)))
  have E_a1_8 := E_a1_6.wr W8
  have E_b4_8 := E_b4_6.wr W8
  have Zs9 := Nat.le_trans Zs7 (Keep.of_wr W8).1
  have Kk8 := Kk6.wr W8 (Or.inl (List.mem_of_getElem? (i := 0) rfl))
  obtain ⟨T10, h10, X10, e10, E10, A10, D10, -, st10⟩ := newO X8 hx hZ hown (hw _ (List.mem_of_getElem? (i := 11) rfl)) (hw _ (List.mem_of_getElem? (i := 12) rfl)) (hw _ (List.mem_of_getElem? (i := 13) rfl)) e8 (g := (mkF m 21 #[.val (.ref a1)] [(.ref a1)])) rfl (hb hby d1_21) (by decide) (by decide)
  obtain ⟨b10, g10⟩ : ∃ z, z = h8.size := ⟨_, rfl⟩
  rw [← g10] at A10 D10 st10
  have ne_a1_b10 : a1 ≠ b10 := Nat.ne_of_lt (Nat.lt_of_lt_of_le F_a1_epoch_8.lt (Nat.le_of_eq g10.symm))
  have ne_b4_b10 : b4 ≠ b10 := Nat.ne_of_lt (Nat.lt_of_lt_of_le E_b4_8.lt (Nat.le_of_eq g10.symm))
  have g_b10 : n0 ≤ b10 := Nat.le_trans Zs9 (Nat.le_of_eq g10.symm)
  have sz_b10 : h0.size ≤ b10 := Nat.le_trans Kk8.1 (Nat.le_of_eq g10.symm)
  have F_a1_epoch_10 := F_a1_epoch_8.ext E10
  have F_a1_held_10 := Fw8.ext E10
  have F_a1_listing_10 := F_a1_listing_8.ext E10
  have F_a1_forgetting_10 := F_a1_forgetting_8.ext E10
  have F_a1_id_10 := F_a1_id_8.ext E10
  have F_a1_pending_10 := F_a1_pending_8.ext E10
  have E_a1_10 := E_a1_8.ext E10
  have E_b4_10 := E_b4_8.ext E10
  have Zs11 := Nat.le_trans Zs9 E10.1
  have Kk10 := Kk8.ext E10
  have F_byTopic_b10 : Fld Z h10 b10 "com/example/tideline/tideline/session/FetchSession$Partitions" "byTopic" "Ljava/util/Map;" .null := D10 (Or.inr (hw _ (List.mem_of_getElem? (i := 45) rfl))) (ty := (.object "java/util/Map")) (by decide)
  obtain ⟨_, _, ⟨T12, L12, k12, n12⟩, -, X12, ⟨Lc12, hQ12, l12, y12, z12⟩, st12⟩ := X10.specialBack hx (y := (⟨"com/example/tideline/tideline/session/FetchSession$Partitions", "<init>", "()V"⟩ : MethodName)) rfl hown (mvT hZ (hw _ (List.mem_of_getElem? (i := 14) rfl))) (mvT hZ (hw _ (List.mem_of_getElem? (i := 15) rfl))) (mvT hZ (hw _ (List.mem_of_getElem? (i := 16) rfl))) (by decide) (backOf (W := 2) (rm3 l Z a0 hw [] b10 h10 n0 Zs11 F_byTopic_b10 A10 g_b10) hZ (hw _ (List.mem_of_getElem? (i := 16) rfl)) (hw _ (List.mem_of_getElem? (i := 13) rfl)) (by decide) (by decide)) (g := (mkF m 25 #[.val (.ref a1)] [(.ref b10), (.ref b10), (.ref a1)])) rfl (by rw [hml]; rfl) (Steps.refl _) (a := b10) (argsL := []) (rest := [(.ref b10), (.ref a1)]) (lenOf pd_0 rfl) rfl (by show 2 * 0 + _ ≤ _; exact Nat.le_of_eq rfl) (hb hby d1_25) (fun _ _ => ⟨rfl, e10, (by decide : 3 + 1 ≤ _), (by decide : 16 + 12 ≤ _)⟩)
  dsimp only [Pt.U, Pt.locs, Pt.cells, Pt.slots] at X12 l12 y12 z12 st12 hQ12
  subst l12 y12 z12
  obtain ⟨rfl, N12q, K12q, P12q⟩ := hQ12
  have N12 := Fr.app N8 N12q
  have F_a1_epoch_12 := F_a1_epoch_10.keep K12q (ninS ne_a1_b10 nin0)
  have F_a1_held_12 := F_a1_held_10.keep K12q (ninS ne_a1_b10 nin0)
  have F_a1_listing_12 := F_a1_listing_10.keep K12q (ninS ne_a1_b10 nin0)
  have F_a1_forgetting_12 := F_a1_forgetting_10.keep K12q (ninS ne_a1_b10 nin0)
  have F_a1_id_12 := F_a1_id_10.keep K12q (ninS ne_a1_b10 nin0)
  have F_a1_pending_12 := F_a1_pending_10.keep K12q (ninS ne_a1_b10 nin0)
  have E_a1_12 := E_a1_10.keep K12q
  have E_b4_12 := E_b4_10.keep K12q
  have E_b10_12 := A10.keep K12q
  have Zs13 := Nat.le_trans Zs11 K12q.1
  have Kk12 := Kk10.trans K12q (allS (Or.inr sz_b10) all0)
  obtain ⟨T14, h14, X14, e14, W14, st14⟩ := putF X12 hx hZ hown (host := "") (Or.inl (hw _ (List.mem_of_getElem? (i := 48) rfl))) Via.refl rfl F_a1_listing_12 E_a1_12 (Or.inl (hw _ (List.mem_of_getElem? (i := 49) rfl))) (hw _ (List.mem_of_getElem? (i := 1) rfl)) (ty := (.object "com/example/tideline/tideline/session/FetchSession$Partitions")) (by decide) rfl rfl (g := (mkF m 28 #[.val (.ref a1)] [(.ref b10), (.ref a1)])) rfl rfl (hb hby d1_28)
  have N14 := Fr.snoc X14 N12 g1
  have Fw14 := Fld.same W14 F_a1_listing_12
  have F_a1_epoch_14 := F_a1_epoch_12.other W14 (Or.inr (slot_ne (Or.inl (hw _ (List.mem_of_getElem? (i := 10) rfl))) (Or.inl (hw _ (List.mem_of_getElem? (i := 49) rfl))) (by decide) (t := .int) (t' := (.object "com/example/tideline/tideline/session/FetchSession$Partitions")) (by decide) (by decide)))
  have F_a1_held_14 := F_a1_held_12.other W14 (Or.inr (slot_ne (Or.inl (hw _ (List.mem_of_getElem? (i := 47) rfl))) (Or.inl (hw _ (List.mem_of_getElem? (i := 49) rfl))) (by decide) (t := (.object "com/example/tideline/tideline/session/FetchSession$Partitions")) (t' := (.object "com/example/tideline/tideline/session/FetchSession$Partitions")) (by decide) (by decide)))
  have F_a1_forgetting_14 := F_a1_forgetting_12.other W14 (Or.inr (slot_ne (Or.inl (hw _ (List.mem_of_getElem? (i := 51) rfl))) (Or.inl (hw _ (List.mem_of_getElem? (i := 49) rfl))) (by decide) (t := (.object "com/example/tideline/tideline/session/FetchSession$Partitions")) (t' := (.object "com/example/tideline/tideline/session/FetchSession$Partitions")) (by decide) (by decide)))
  have F_a1_id_14 := F_a1_id_12.other W14 (Or.inr (slot_ne (Or.inl (hw _ (List.mem_of_getElem? (i := 61) rfl))) (Or.inl (hw _ (List.mem_of_getElem? (i := 49) rfl))) (by decide) (t := .int) (t' := (.object "com/example/tideline/tideline/session/FetchSession$Partitions")) (by decide) (by decide)))
  have F_a1_pending_14 := F_a1_pending_12.other W14 (Or.inr (slot_ne (Or.inl (hw _ (List.mem_of_getElem? (i := 80) rfl))) (Or.inl (hw _ (List.mem_of_getElem? (i := 49) rfl))) (by decide) (t := (.object "com/example/tideline/tideline/session/FetcherSession$Request")) (t' := (.object "com/example/tideline/tideline/session/FetchSession$Partitions")) (by decide) (by decide)))
  have E_a1_14 := E_a1_12.wr W14
  have E_b4_14 := E_b4_12.wr W14
  have E_b10_14 := E_b10_12.wr W14
  have Zs15 := Nat.le_trans Zs13 (Keep.of_wr W14).1
  have Kk14 := Kk12.wr W14 (Or.inl (List.mem_of_getElem? (i := 0) rfl))
  obtain ⟨T16, h16, X16, e16, E16, A16, D16, -, st16⟩ := newO X14 hx hZ hown (hw _ (List.mem_of_getElem? (i := 11) rfl)) (hw _ (List.mem_of_getElem? (i := 12) rfl)) (hw _ (List.mem_of_getElem? (i := 13) rfl)) e14 (g := (mkF m 32 #[.val (.ref a1)] [(.ref a1)])) rfl (hb hby d1_32) (by decide) (by decide)
  obtain ⟨b16, g16⟩ : ∃ z, z = h14.size := ⟨_, rfl⟩
  rw [← g16] at A16 D16 st16
  have ne_a1_b16 : a1 ≠ b16 := Nat.ne_of_lt (Nat.lt_of_lt_of_le F_a1_epoch_14.lt (Nat.le_of_eq g16.symm))
  have ne_b4_b16 : b4 ≠ b16 := Nat.ne_of_lt (Nat.lt_of_lt_of_le E_b4_14.lt (Nat.le_of_eq g16.symm))
  have ne_b10_b16 : b10 ≠ b16 := Nat.ne_of_lt (Nat.lt_of_lt_of_le E_b10_14.lt (Nat.le_of_eq g16.symm))
  have g_b16 : n0 ≤ b16 := Nat.le_trans Zs15 (Nat.le_of_eq g16.symm)
  have sz_b16 : h0.size ≤ b16 := Nat.le_trans Kk14.1 (Nat.le_of_eq g16.symm)
  have F_a1_epoch_16 := F_a1_epoch_14.ext E16
  have F_a1_held_16 := F_a1_held_14.ext E16
  have F_a1_listing_16 := Fw14.ext E16
  have F_a1_forgetting_16 := F_a1_forgetting_14.ext E16
  have F_a1_id_16 := F_a1_id_14.ext E16
  have F_a1_pending_16 := F_a1_pending_14.ext E16
  have E_a1_16 := E_a1_14.ext E16
  have E_b4_16 := E_b4_14.ext E16
  have E_b10_16 := E_b10_14.ext E16
  have Zs17 := Nat.le_trans Zs15 E16.1
  have Kk16 := Kk14.ext E16
  have F_byTopic_b16 : Fld Z h16 b16 "com/example/tideline/tideline/session/FetchSession$Partitions" "byTopic" "Ljava/util/Map;" .null := D16 (Or.inr (hw _ (List.mem_of_getElem? (i := 45) rfl))) (ty := (.object "java/util/Map")) (by decide)
  obtain ⟨_, _, ⟨T18, L18, k18, n18⟩, -, X18, ⟨Lc18, hQ18, l18, y18, z18⟩, st18⟩ := X16.specialBack hx (y := (⟨"com/example/tideline/tideline/session/FetchSession$Partitions", "<init>", "()V"⟩ : MethodName)) rfl hown (mvT hZ (hw _ (List.mem_of_getElem? (i := 14) rfl))) (mvT hZ (hw _ (List.mem_of_getElem? (i := 15) rfl))) (mvT hZ (hw _ (List.mem_of_getElem? (i := 16) rfl))) (by decide) (backOf (W := 2) (rm3 l Z a0 hw [] b16 h16 n0 Zs17 F_byTopic_b16 A16 g_b16) hZ (hw _ (List.mem_of_getElem? (i := 16) rfl)) (hw _ (List.mem_of_getElem? (i := 13) rfl)) (by decide) (by decide)) (g := (mkF m 36 #[.val (.ref a1)] [(.ref b16), (.ref b16), (.ref a1)])) rfl (by rw [hml]; rfl) (Steps.refl _) (a := b16) (argsL := []) (rest := [(.ref b16), (.ref a1)]) (lenOf pd_0 rfl) rfl (by show 2 * 0 + _ ≤ _; exact Nat.le_of_eq rfl) (hb hby d1_36) (fun _ _ => ⟨rfl, e16, (by decide : 5 + 1 ≤ _), (by decide : 30 + 12 ≤ _)⟩)
  dsimp only [Pt.U, Pt.locs, Pt.cells, Pt.slots] at X18 l18 y18 z18 st18 hQ18
  subst l18 y18 z18
  obtain ⟨rfl, N18q, K18q, P18q⟩ := hQ18
  have N18 := Fr.app N14 N18q
  have F_a1_epoch_18 := F_a1_epoch_16.keep K18q (ninS ne_a1_b16 nin0)
  have F_a1_held_18 := F_a1_held_16.keep K18q (ninS ne_a1_b16 nin0)
  have F_a1_listing_18 := F_a1_listing_16.keep K18q (ninS ne_a1_b16 nin0)
  have F_a1_forgetting_18 := F_a1_forgetting_16.keep K18q (ninS ne_a1_b16 nin0)
  have F_a1_id_18 := F_a1_id_16.keep K18q (ninS ne_a1_b16 nin0)
  have F_a1_pending_18 := F_a1_pending_16.keep K18q (ninS ne_a1_b16 nin0)
  have E_a1_18 := E_a1_16.keep K18q
  have E_b4_18 := E_b4_16.keep K18q
  have E_b10_18 := E_b10_16.keep K18q
  have E_b16_18 := A16.keep K18q
  have Zs19 := Nat.le_trans Zs17 K18q.1
  have Kk18 := Kk16.trans K18q (allS (Or.inr sz_b16) all0)
  obtain ⟨T20, h20, X20, e20, W20, st20⟩ := putF X18 hx hZ hown (host := "") (Or.inl (hw _ (List.mem_of_getElem? (i := 50) rfl))) Via.refl rfl F_a1_forgetting_18 E_a1_18 (Or.inl (hw _ (List.mem_of_getElem? (i := 51) rfl))) (hw _ (List.mem_of_getElem? (i := 1) rfl)) (ty := (.object "com/example/tideline/tideline/session/FetchSession$Partitions")) (by decide) rfl rfl (g := (mkF m 39 #[.val (.ref a1)] [(.ref b16), (.ref a1)])) rfl rfl (hb hby d1_39)
  have N20 := Fr.snoc X20 N18 g1
  have Fw20 := Fld.same W20 F_a1_forgetting_18
  have F_a1_epoch_20 := F_a1_epoch_18.other W20 (Or.inr (slot_ne (Or.inl (hw _ (List.mem_of_getElem? (i := 10) rfl))) (Or.inl (hw _ (List.mem_of_getElem? (i := 51) rfl))) (by decide) (t := .int) (t' := (.object "com/example/tideline/tideline/session/FetchSession$Partitions")) (by decide) (by decide)))
  have F_a1_held_20 := F_a1_held_18.other W20 (Or.inr (slot_ne (Or.inl (hw _ (List.mem_of_getElem? (i := 47) rfl))) (Or.inl (hw _ (List.mem_of_getElem? (i := 51) rfl))) (by decide) (t := (.object "com/example/tideline/tideline/session/FetchSession$Partitions")) (t' := (.object "com/example/tideline/tideline/session/FetchSession$Partitions")) (by decide) (by decide)))
  have F_a1_listing_20 := F_a1_listing_18.other W20 (Or.inr (slot_ne (Or.inl (hw _ (List.mem_of_getElem? (i := 49) rfl))) (Or.inl (hw _ (List.mem_of_getElem? (i := 51) rfl))) (by decide) (t := (.object "com/example/tideline/tideline/session/FetchSession$Partitions")) (t' := (.object "com/example/tideline/tideline/session/FetchSession$Partitions")) (by decide) (by decide)))
  have F_a1_id_20 := F_a1_id_18.other W20 (Or.inr (slot_ne (Or.inl (hw _ (List.mem_of_getElem? (i := 61) rfl))) (Or.inl (hw _ (List.mem_of_getElem? (i := 51) rfl))) (by decide) (t := .int) (t' := (.object "com/example/tideline/tideline/session/FetchSession$Partitions")) (by decide) (by decide)))
  have F_a1_pending_20 := F_a1_pending_18.other W20 (Or.inr (slot_ne (Or.inl (hw _ (List.mem_of_getElem? (i := 80) rfl))) (Or.inl (hw _ (List.mem_of_getElem? (i := 51) rfl))) (by decide) (t := (.object "com/example/tideline/tideline/session/FetcherSession$Request")) (t' := (.object "com/example/tideline/tideline/session/FetchSession$Partitions")) (by decide) (by decide)))
  have E_a1_20 := E_a1_18.wr W20
  have E_b4_20 := E_b4_18.wr W20
  have E_b10_20 := E_b10_18.wr W20
  have E_b16_20 := E_b16_18.wr W20
  have Zs21 := Nat.le_trans Zs19 (Keep.of_wr W20).1
  have Kk20 := Kk18.wr W20 (Or.inl (List.mem_of_getElem? (i := 0) rfl))
  obtain ⟨fs, hr, hrun, hended, hW, hsame⟩ := X20.leave (v := none) (fun _ => rfl)
  refine ⟨_, _, pre0 _ ?_, hrun, hended, _, _, rfl, ?_, ⟨_, rfl⟩, hW, hsame.mono (by decide) (by decide)⟩
  · show Steps p.tables e below (s₁.setTop (mkF m 0 #[.val (.ref a1)] [])) _
    refine XS.aloadN X0.here hx rfl (hb hby d1_0) rfl rfl ?_
    show Steps p.tables e below (s₁.setTop (mkF m 1 #[.val (.ref a1)] [(.ref a1)])) _
    refine st1 _ ?_
    show Steps p.tables e below (T1.setTop (mkF m 4 #[.val (.ref a1)] [])) _
    refine XS.aloadN X1.here hx rfl (hb hby d1_4) rfl rfl ?_
    show Steps p.tables e below (T1.setTop (mkF m 5 #[.val (.ref a1)] [(.ref a1)])) _
    refine XS.iconst X1.here hx rfl (hb hby d1_5) ?_
    show Steps p.tables e below (T1.setTop (mkF m 6 #[.val (.ref a1)] [(.int (0 : Int32)), (.ref a1)])) _
    refine st2 _ ?_
    show Steps p.tables e below (T2.setTop (mkF m 9 #[.val (.ref a1)] [])) _
    refine XS.aloadN X2.here hx rfl (hb hby d1_9) rfl rfl ?_
    show Steps p.tables e below (T2.setTop (mkF m 10 #[.val (.ref a1)] [(.ref a1)])) _
    refine st4 _ ?_
    show Steps p.tables e below (T4.setTop (mkF m 13 #[.val (.ref a1)] [(.ref b4), (.ref a1)])) _
    refine XS.dup X4.here hx rfl (hb hby d1_13) rfl rfl ?_
    show Steps p.tables e below (T4.setTop (mkF m 14 #[.val (.ref a1)] [(.ref b4), (.ref b4), (.ref a1)])) _
    refine st6.trans ?_
    show Steps p.tables e below (T6.setTop (mkF m 17 #[.val (.ref a1)] [(.ref b4), (.ref a1)])) _
    refine st8 _ ?_
    show Steps p.tables e below (T8.setTop (mkF m 20 #[.val (.ref a1)] [])) _
    refine XS.aloadN X8.here hx rfl (hb hby d1_20) rfl rfl ?_
    show Steps p.tables e below (T8.setTop (mkF m 21 #[.val (.ref a1)] [(.ref a1)])) _
    refine st10 _ ?_
    show Steps p.tables e below (T10.setTop (mkF m 24 #[.val (.ref a1)] [(.ref b10), (.ref a1)])) _
    refine XS.dup X10.here hx rfl (hb hby d1_24) rfl rfl ?_
    show Steps p.tables e below (T10.setTop (mkF m 25 #[.val (.ref a1)] [(.ref b10), (.ref b10), (.ref a1)])) _
    refine st12.trans ?_
    show Steps p.tables e below (T12.setTop (mkF m 28 #[.val (.ref a1)] [(.ref b10), (.ref a1)])) _
    refine st14 _ ?_
    show Steps p.tables e below (T14.setTop (mkF m 31 #[.val (.ref a1)] [])) _
    refine XS.aloadN X14.here hx rfl (hb hby d1_31) rfl rfl ?_
    show Steps p.tables e below (T14.setTop (mkF m 32 #[.val (.ref a1)] [(.ref a1)])) _
    refine st16 _ ?_
    show Steps p.tables e below (T16.setTop (mkF m 35 #[.val (.ref a1)] [(.ref b16), (.ref a1)])) _
    refine XS.dup X16.here hx rfl (hb hby d1_35) rfl rfl ?_
    show Steps p.tables e below (T16.setTop (mkF m 36 #[.val (.ref a1)] [(.ref b16), (.ref b16), (.ref a1)])) _
    refine st18.trans ?_
    show Steps p.tables e below (T18.setTop (mkF m 39 #[.val (.ref a1)] [(.ref b16), (.ref a1)])) _
    refine st20 _ ?_
    show Steps p.tables e below (T20.setTop (mkF m 42 #[.val (.ref a1)] [])) _
    exact X20.returnOut hx Bd.returns (hb hby d1_42) hr
  · show Q1 Z a1 h0 n0 _ T20.heap _
    rw [e20]
    exact ⟨_, _, _, rfl, N20, Kk20, E_a1_20, F_a1_epoch_20, F_a1_held_20, F_a1_listing_20, Fw20, F_a1_id_20, F_a1_pending_20⟩
def Q8 (Z : State) (a1 : Addr) (p1 p2 : Int32) (x1 x2 : Addr) (h0 : Heap) (n0 : Nat) (v : Option Value) (h : Heap) (L : List Loc) : Prop := v = none ∧ Fr n0 L ∧ Keep h0 h [a1] ∧ Exa Z h a1 "com/example/tideline/tideline/session/FetcherSession$Request" ∧ Fld Z h a1 "com/example/tideline/tideline/session/FetcherSession$Request" "sessionId" "I" (.int p1) ∧ Fld Z h a1 "com/example/tideline/tideline/session/FetcherSession$Request" "epoch" "I" (.int p2) ∧ Fld Z h a1 "com/example/tideline/tideline/session/FetcherSession$Request" "listed" "Lcom/example/tideline/tideline/session/FetchSession$Partitions;" (.ref x1) ∧ Fld Z h a1 "com/example/tideline/tideline/session/FetcherSession$Request" "forgotten" "Lcom/example/tideline/tideline/session/FetchSession$Partitions;" (.ref x2)
set_option maxRecDepth 65536 in
set_option maxHeartbeats 40000000 in
theorem rm8 (l : Launch) (Z : State) (a0 : Array Value) (hw : ∀ d ∈ tables_1, d.before a0 Z = true) (ws : List Jvm.Cond) (a1 : Addr) (p1 p2 : Int32) (x1 x2 : Addr) (h0 : Heap) (n0 : Nat) (Z0 : n0 ≤ h0.size) (F0 : Fld Z h0 a1 "com/example/tideline/tideline/session/FetcherSession$Request" "sessionId" "I" (.int (0 : Int32))) (F1 : Fld Z h0 a1 "com/example/tideline/tideline/session/FetcherSession$Request" "epoch" "I" (.int (0 : Int32))) (F2 : Fld Z h0 a1 "com/example/tideline/tideline/session/FetcherSession$Request" "listed" "Lcom/example/tideline/tideline/session/FetchSession$Partitions;" .null) (F3 : Fld Z h0 a1 "com/example/tideline/tideline/session/FetcherSession$Request" "forgotten" "Lcom/example/tideline/tideline/session/FetchSession$Partitions;" .null) (E1 : Exa Z h0 a1 "com/example/tideline/tideline/session/FetcherSession$Request") (g1 : n0 ≤ a1) :
    MetFree l (⟨"com/example/tideline/tideline/session/FetcherSession$Request", "<init>", "(IILcom/example/tideline/tideline/session/FetchSession$Partitions;Lcom/example/tideline/tideline/session/FetchSession$Partitions;)V"⟩ : MethodName) (head1 (Jvm.Cond.code (⟨"com/example/tideline/tideline/session/FetcherSession$Request", "<init>", "(IILcom/example/tideline/tideline/session/FetchSession$Partitions;Lcom/example/tideline/tideline/session/FetchSession$Partitions;)V"⟩ : MethodName) prog_254_method_1_code 5 none :: ws) ({ frames := 2, cells := 0, slots := 0, locals := 24 } : Room)) (fun a U => a = #[(.ref a1), (.int p1), (.int p2), (.ref x1), (.ref x2)] ∧ Z.Warmed39 U.vm ∧ U.heap = h0) (fun _ _ _ _ _ => True) (fun _ U o U' => ∃ v L, o = .returned v ∧ Q8 Z a1 p1 p2 x1 x2 h0 n0 v U'.heap L ∧ FrameEnd U o U' L ({ frames := 2, cells := 0, slots := 0, locals := 24 } : Room).cells ({ frames := 2, cells := 0, slots := 0, locals := 24 } : Room).slots) := by
  refine MetFree.of_bodySF (plainFor_of_name pn_8) hisR ?_
  intro p e s m args below meth c s₁ Bd hml0 hP hK
  obtain ⟨rfl, hZ, hh⟩ := hP
  have hx := Bd.exec
  have hby := Bd.bytes
  have hml : c.maxLocals = 5 := hml0
  have hown : s.vm.findClass "com/example/tideline/tideline/session/FetcherSession$Request" = some m.cls := findClass_of_methodNamed Bd.named
  have hnm := (name_of_methodNamed Bd.named Bd.method).1
  have X0 : Stand p l e ({ frames := 2, cells := 0, slots := 0, locals := 24 } : Room) s m #[(.ref a1), (.int p1), (.int p2), (.ref x1), (.ref x2)] below meth c s₁ [] 0 0 := Stand.of_body Bd
  have e0 : s₁.heap = h0 := by rw [← hh, Bd.state]; rfl
  have N0 := Fr.nil n0
  have pre0 : ∀ t, Steps p.tables e below (s₁.setTop (mkF m 0 #[.val (.ref a1), .val (.int p1), .val (.int p2), .val (.ref x1), .val (.ref x2)] [])) t → Steps p.tables e below (s₁.setTop (entryFrame m #[(.ref a1), (.int p1), (.int p2), (.ref x1), (.ref x2)] 5)) t := fun t k => castTop (ef_8 m a1 p1 p2 x1 x2) k
  have KK0 := Keep.refl h0 [a1]
  obtain ⟨_, _, ⟨T1, L1, k1, n1⟩, -, X1, ⟨Lc1, hQ1, l1, y1, z1⟩, st1⟩ := X0.specialBack hx (y := (⟨"java/lang/Record", "<init>", "()V"⟩ : MethodName)) rfl hown (mvT hZ (hw _ (List.mem_of_getElem? (i := 65) rfl))) (mvT hZ (hw _ (List.mem_of_getElem? (i := 66) rfl))) (mvT hZ (hw _ (List.mem_of_getElem? (i := 69) rfl))) (by decide) (backOf (W := 0) (rm9 l Z a0 hw [] a1 h0 n0 Z0) hZ (hw _ (List.mem_of_getElem? (i := 69) rfl)) (hw _ (List.mem_of_getElem? (i := 68) rfl)) (by decide) (by decide)) (g := (mkF m 1 #[.val (.ref a1), .val (.int p1), .val (.int p2), .val (.ref x1), .val (.ref x2)] [(.ref a1)])) rfl (by rw [hml]; rfl) (Steps.refl _) (a := a1) (argsL := []) (rest := []) (lenOf pd_0 rfl) rfl (by show 2 * 0 + _ ≤ _; exact Nat.le_of_eq rfl) (hb hby d8_1) (fun _ _ => ⟨rfl, e0, (by decide : 0 + 0 ≤ _), (by decide : 0 + 0 ≤ _)⟩)
  dsimp only [Pt.U, Pt.locs, Pt.cells, Pt.slots] at X1 l1 y1 z1 st1 hQ1
  subst l1 y1 z1
  obtain ⟨rfl, N1q, e1q⟩ := hQ1
  have N1 := Fr.app N0 N1q
  obtain ⟨T2, h2, X2, e2, W2, st2⟩ := putF X1 hx hZ hown (host := "") (Or.inl (hw _ (List.mem_of_getElem? (i := 71) rfl))) Via.refl e1q F0 E1 (Or.inr ⟨(hw _ (List.mem_of_getElem? (i := 72) rfl)), rfl, hnm⟩) (hw _ (List.mem_of_getElem? (i := 58) rfl)) (ty := .int) (by decide) rfl rfl (g := (mkF m 6 #[.val (.ref a1), .val (.int p1), .val (.int p2), .val (.ref x1), .val (.ref x2)] [(.int p1), (.ref a1)])) rfl rfl (hb hby d8_6)
  have N2 := Fr.snoc X2 N1 g1
  have Fw2 := Fld.same W2 F0
  have F_a1_epoch_2 := F1.other W2 (Or.inr (slot_ne (Or.inr (hw _ (List.mem_of_getElem? (i := 74) rfl))) (Or.inr (hw _ (List.mem_of_getElem? (i := 72) rfl))) (by decide) (t := .int) (t' := .int) (by decide) (by decide)))
  have F_a1_listed_2 := F2.other W2 (Or.inr (slot_ne (Or.inr (hw _ (List.mem_of_getElem? (i := 76) rfl))) (Or.inr (hw _ (List.mem_of_getElem? (i := 72) rfl))) (by decide) (t := (.object "com/example/tideline/tideline/session/FetchSession$Partitions")) (t' := .int) (by decide) (by decide)))
  have F_a1_forgotten_2 := F3.other W2 (Or.inr (slot_ne (Or.inr (hw _ (List.mem_of_getElem? (i := 78) rfl))) (Or.inr (hw _ (List.mem_of_getElem? (i := 72) rfl))) (by decide) (t := (.object "com/example/tideline/tideline/session/FetchSession$Partitions")) (t' := .int) (by decide) (by decide)))
  have E_a1_2 := E1.wr W2
  have Zs3 := Nat.le_trans Z0 (Keep.of_wr W2).1
  have Kk2 := KK0.wr W2 (Or.inl (List.mem_of_getElem? (i := 0) rfl))
  obtain ⟨T4, h4, X4, e4, W4, st4⟩ := putF X2 hx hZ hown (host := "") (Or.inl (hw _ (List.mem_of_getElem? (i := 73) rfl))) Via.refl e2 F_a1_epoch_2 E_a1_2 (Or.inr ⟨(hw _ (List.mem_of_getElem? (i := 74) rfl)), rfl, hnm⟩) (hw _ (List.mem_of_getElem? (i := 58) rfl)) (ty := .int) (by decide) rfl rfl (g := (mkF m 11 #[.val (.ref a1), .val (.int p1), .val (.int p2), .val (.ref x1), .val (.ref x2)] [(.int p2), (.ref a1)])) rfl rfl (hb hby d8_11)
  have N4 := Fr.snoc X4 N2 g1
  have Fw4 := Fld.same W4 F_a1_epoch_2
  have F_a1_sessionId_4 := Fw2.other W4 (Or.inr (slot_ne (Or.inr (hw _ (List.mem_of_getElem? (i := 72) rfl))) (Or.inr (hw _ (List.mem_of_getElem? (i := 74) rfl))) (by decide) (t := .int) (t' := .int) (by decide) (by decide)))
  have F_a1_listed_4 := F_a1_listed_2.other W4 (Or.inr (slot_ne (Or.inr (hw _ (List.mem_of_getElem? (i := 76) rfl))) (Or.inr (hw _ (List.mem_of_getElem? (i := 74) rfl))) (by decide) (t := (.object "com/example/tideline/tideline/session/FetchSession$Partitions")) (t' := .int) (by decide) (by decide)))
  have F_a1_forgotten_4 := F_a1_forgotten_2.other W4 (Or.inr (slot_ne (Or.inr (hw _ (List.mem_of_getElem? (i := 78) rfl))) (Or.inr (hw _ (List.mem_of_getElem? (i := 74) rfl))) (by decide) (t := (.object "com/example/tideline/tideline/session/FetchSession$Partitions")) (t' := .int) (by decide) (by decide)))
  have E_a1_4 := E_a1_2.wr W4
  have Zs5 := Nat.le_trans Zs3 (Keep.of_wr W4).1
  have Kk4 := Kk2.wr W4 (Or.inl (List.mem_of_getElem? (i := 0) rfl))
  obtain ⟨T6, h6, X6, e6, W6, st6⟩ := putF X4 hx hZ hown (host := "") (Or.inl (hw _ (List.mem_of_getElem? (i := 75) rfl))) Via.refl e4 F_a1_listed_4 E_a1_4 (Or.inr ⟨(hw _ (List.mem_of_getElem? (i := 76) rfl)), rfl, hnm⟩) (hw _ (List.mem_of_getElem? (i := 58) rfl)) (ty := (.object "com/example/tideline/tideline/session/FetchSession$Partitions")) (by decide) rfl rfl (g := (mkF m 16 #[.val (.ref a1), .val (.int p1), .val (.int p2), .val (.ref x1), .val (.ref x2)] [(.ref x1), (.ref a1)])) rfl rfl (hb hby d8_16)
  have N6 := Fr.snoc X6 N4 g1
  have Fw6 := Fld.same W6 F_a1_listed_4
  have F_a1_sessionId_6 := F_a1_sessionId_4.other W6 (Or.inr (slot_ne (Or.inr (hw _ (List.mem_of_getElem? (i := 72) rfl))) (Or.inr (hw _ (List.mem_of_getElem? (i := 76) rfl))) (by decide) (t := .int) (t' := (.object "com/example/tideline/tideline/session/FetchSession$Partitions")) (by decide) (by decide)))
  have F_a1_epoch_6 := Fw4.other W6 (Or.inr (slot_ne (Or.inr (hw _ (List.mem_of_getElem? (i := 74) rfl))) (Or.inr (hw _ (List.mem_of_getElem? (i := 76) rfl))) (by decide) (t := .int) (t' := (.object "com/example/tideline/tideline/session/FetchSession$Partitions")) (by decide) (by decide)))
  have F_a1_forgotten_6 := F_a1_forgotten_4.other W6 (Or.inr (slot_ne (Or.inr (hw _ (List.mem_of_getElem? (i := 78) rfl))) (Or.inr (hw _ (List.mem_of_getElem? (i := 76) rfl))) (by decide) (t := (.object "com/example/tideline/tideline/session/FetchSession$Partitions")) (t' := (.object "com/example/tideline/tideline/session/FetchSession$Partitions")) (by decide) (by decide)))
  have E_a1_6 := E_a1_4.wr W6
  have Zs7 := Nat.le_trans Zs5 (Keep.of_wr W6).1
  have Kk6 := Kk4.wr W6 (Or.inl (List.mem_of_getElem? (i := 0) rfl))
  obtain ⟨T8, h8, X8, e8, W8, st8⟩ := putF X6 hx hZ hown (host := "") (Or.inl (hw _ (List.mem_of_getElem? (i := 77) rfl))) Via.refl e6 F_a1_forgotten_6 E_a1_6 (Or.inr ⟨(hw _ (List.mem_of_getElem? (i := 78) rfl)), rfl, hnm⟩) (hw _ (List.mem_of_getElem? (i := 58) rfl)) (ty := (.object "com/example/tideline/tideline/session/FetchSession$Partitions")) (by decide) rfl rfl (g := (mkF m 22 #[.val (.ref a1), .val (.int p1), .val (.int p2), .val (.ref x1), .val (.ref x2)] [(.ref x2), (.ref a1)])) rfl rfl (hb hby d8_22)
  have N8 := Fr.snoc X8 N6 g1
  have Fw8 := Fld.same W8 F_a1_forgotten_6
  have F_a1_sessionId_8 := F_a1_sessionId_6.other W8 (Or.inr (slot_ne (Or.inr (hw _ (List.mem_of_getElem? (i := 72) rfl))) (Or.inr (hw _ (List.mem_of_getElem? (i := 78) rfl))) (by decide) (t := .int) (t' := (.object "com/example/tideline/tideline/session/FetchSession$Partitions")) (by decide) (by decide)))
  have F_a1_epoch_8 := F_a1_epoch_6.other W8 (Or.inr (slot_ne (Or.inr (hw _ (List.mem_of_getElem? (i := 74) rfl))) (Or.inr (hw _ (List.mem_of_getElem? (i := 78) rfl))) (by decide) (t := .int) (t' := (.object "com/example/tideline/tideline/session/FetchSession$Partitions")) (by decide) (by decide)))
  have F_a1_listed_8 := Fw6.other W8 (Or.inr (slot_ne (Or.inr (hw _ (List.mem_of_getElem? (i := 76) rfl))) (Or.inr (hw _ (List.mem_of_getElem? (i := 78) rfl))) (by decide) (t := (.object "com/example/tideline/tideline/session/FetchSession$Partitions")) (t' := (.object "com/example/tideline/tideline/session/FetchSession$Partitions")) (by decide) (by decide)))
  have E_a1_8 := E_a1_6.wr W8
  have Zs9 := Nat.le_trans Zs7 (Keep.of_wr W8).1
  have Kk8 := Kk6.wr W8 (Or.inl (List.mem_of_getElem? (i := 0) rfl))
  obtain ⟨fs, hr, hrun, hended, hW, hsame⟩ := X8.leave (v := none) (fun _ => rfl)
  refine ⟨_, _, pre0 _ ?_, hrun, hended, _, _, rfl, ?_, ⟨_, rfl⟩, hW, hsame.mono (by decide) (by decide)⟩
  · show Steps p.tables e below (s₁.setTop (mkF m 0 #[.val (.ref a1), .val (.int p1), .val (.int p2), .val (.ref x1), .val (.ref x2)] [])) _
    refine XS.aloadN X0.here hx rfl (hb hby d8_0) rfl rfl ?_
    show Steps p.tables e below (s₁.setTop (mkF m 1 #[.val (.ref a1), .val (.int p1), .val (.int p2), .val (.ref x1), .val (.ref x2)] [(.ref a1)])) _
    refine st1.trans ?_
    show Steps p.tables e below (T1.setTop (mkF m 4 #[.val (.ref a1), .val (.int p1), .val (.int p2), .val (.ref x1), .val (.ref x2)] [])) _
    refine XS.aloadN X1.here hx rfl (hb hby d8_4) rfl rfl ?_
    show Steps p.tables e below (T1.setTop (mkF m 5 #[.val (.ref a1), .val (.int p1), .val (.int p2), .val (.ref x1), .val (.ref x2)] [(.ref a1)])) _
    refine XS.iloadN X1.here hx rfl (hb hby d8_5) rfl ?_
    show Steps p.tables e below (T1.setTop (mkF m 6 #[.val (.ref a1), .val (.int p1), .val (.int p2), .val (.ref x1), .val (.ref x2)] [(.int p1), (.ref a1)])) _
    refine st2 _ ?_
    show Steps p.tables e below (T2.setTop (mkF m 9 #[.val (.ref a1), .val (.int p1), .val (.int p2), .val (.ref x1), .val (.ref x2)] [])) _
    refine XS.aloadN X2.here hx rfl (hb hby d8_9) rfl rfl ?_
    show Steps p.tables e below (T2.setTop (mkF m 10 #[.val (.ref a1), .val (.int p1), .val (.int p2), .val (.ref x1), .val (.ref x2)] [(.ref a1)])) _
    refine XS.iloadN X2.here hx rfl (hb hby d8_10) rfl ?_
    show Steps p.tables e below (T2.setTop (mkF m 11 #[.val (.ref a1), .val (.int p1), .val (.int p2), .val (.ref x1), .val (.ref x2)] [(.int p2), (.ref a1)])) _
    refine st4 _ ?_
    show Steps p.tables e below (T4.setTop (mkF m 14 #[.val (.ref a1), .val (.int p1), .val (.int p2), .val (.ref x1), .val (.ref x2)] [])) _
    refine XS.aloadN X4.here hx rfl (hb hby d8_14) rfl rfl ?_
    show Steps p.tables e below (T4.setTop (mkF m 15 #[.val (.ref a1), .val (.int p1), .val (.int p2), .val (.ref x1), .val (.ref x2)] [(.ref a1)])) _
    refine XS.aloadN X4.here hx rfl (hb hby d8_15) rfl rfl ?_
    show Steps p.tables e below (T4.setTop (mkF m 16 #[.val (.ref a1), .val (.int p1), .val (.int p2), .val (.ref x1), .val (.ref x2)] [(.ref x1), (.ref a1)])) _
    refine st6 _ ?_
    show Steps p.tables e below (T6.setTop (mkF m 19 #[.val (.ref a1), .val (.int p1), .val (.int p2), .val (.ref x1), .val (.ref x2)] [])) _
    refine XS.aloadN X6.here hx rfl (hb hby d8_19) rfl rfl ?_
    show Steps p.tables e below (T6.setTop (mkF m 20 #[.val (.ref a1), .val (.int p1), .val (.int p2), .val (.ref x1), .val (.ref x2)] [(.ref a1)])) _
    refine XS.aload X6.here hx rfl (hb hby d8_20) rfl rfl ?_
    show Steps p.tables e below (T6.setTop (mkF m 22 #[.val (.ref a1), .val (.int p1), .val (.int p2), .val (.ref x1), .val (.ref x2)] [(.ref x2), (.ref a1)])) _
    refine st8 _ ?_
    show Steps p.tables e below (T8.setTop (mkF m 25 #[.val (.ref a1), .val (.int p1), .val (.int p2), .val (.ref x1), .val (.ref x2)] [])) _
    exact X8.returnOut hx Bd.returns (hb hby d8_25) hr
  · show Q8 Z a1 p1 p2 x1 x2 h0 n0 _ T8.heap _
    rw [e8]
    exact ⟨rfl, N8, Kk8, E_a1_8, F_a1_sessionId_8, F_a1_epoch_8, F_a1_listed_8, Fw8⟩
def Q7 (Z : State) (a1 : Addr) (p1 p2 : Int32) (x1 x2 : Addr) (hv pv : Value) (h0 : Heap) (n0 : Nat) (v : Option Value) (h : Heap) (L : List Loc) : Prop := ∃ rq l2 f2 x3 : Addr, v = some (.ref rq) ∧ Fr n0 L ∧ Keep h0 h [a1] ∧ Exa Z h a1 "com/example/tideline/tideline/session/FetcherSession" ∧ Fld Z h a1 "com/example/tideline/tideline/session/FetcherSession" "id" "I" (.int p1) ∧ Fld Z h a1 "com/example/tideline/tideline/session/FetcherSession" "epoch" "I" (.int p2) ∧ Fld Z h a1 "com/example/tideline/tideline/session/FetcherSession" "held" "Lcom/example/tideline/tideline/session/FetchSession$Partitions;" hv ∧ Fld Z h a1 "com/example/tideline/tideline/session/FetcherSession" "pending" "Lcom/example/tideline/tideline/session/FetcherSession$Request;" (.ref rq) ∧ Fld Z h a1 "com/example/tideline/tideline/session/FetcherSession" "listing" "Lcom/example/tideline/tideline/session/FetchSession$Partitions;" (.ref l2) ∧ Fld Z h a1 "com/example/tideline/tideline/session/FetcherSession" "forgetting" "Lcom/example/tideline/tideline/session/FetchSession$Partitions;" (.ref f2) ∧ own_part Z h h0.size l2 ∧ own_part Z h h0.size f2 ∧ Exa Z h rq "com/example/tideline/tideline/session/FetcherSession$Request" ∧ h0.size ≤ rq ∧ Fld Z h rq "com/example/tideline/tideline/session/FetcherSession$Request" "sessionId" "I" (.int p1) ∧ Fld Z h rq "com/example/tideline/tideline/session/FetcherSession$Request" "epoch" "I" (.int p2) ∧ Fld Z h rq "com/example/tideline/tideline/session/FetcherSession$Request" "listed" "Lcom/example/tideline/tideline/session/FetchSession$Partitions;" (.ref x1) ∧ Fld Z h rq "com/example/tideline/tideline/session/FetcherSession$Request" "forgotten" "Lcom/example/tideline/tideline/session/FetchSession$Partitions;" (.ref x3) ∧ (¬ p2 = 0 → x3 = x2)
set_option maxRecDepth 65536 in
set_option maxHeartbeats 40000000 in
theorem rm7 (l : Launch) (Z : State) (a0 : Array Value) (hw : ∀ d ∈ tables_1, d.before a0 Z = true) (ws : List Jvm.Cond) (a1 : Addr) (p1 p2 : Int32) (x1 x2 : Addr) (hv pv : Value) (h0 : Heap) (n0 : Nat) (Z0 : n0 ≤ h0.size) (F_epoch : Fld Z h0 a1 "com/example/tideline/tideline/session/FetcherSession" "epoch" "I" (.int p2)) (F_held : Fld Z h0 a1 "com/example/tideline/tideline/session/FetcherSession" "held" "Lcom/example/tideline/tideline/session/FetchSession$Partitions;" hv) (F_listing : Fld Z h0 a1 "com/example/tideline/tideline/session/FetcherSession" "listing" "Lcom/example/tideline/tideline/session/FetchSession$Partitions;" (.ref x1)) (F_forgetting : Fld Z h0 a1 "com/example/tideline/tideline/session/FetcherSession" "forgetting" "Lcom/example/tideline/tideline/session/FetchSession$Partitions;" (.ref x2)) (F_id : Fld Z h0 a1 "com/example/tideline/tideline/session/FetcherSession" "id" "I" (.int p1)) (F_pending : Fld Z h0 a1 "com/example/tideline/tideline/session/FetcherSession" "pending" "Lcom/example/tideline/tideline/session/FetcherSession$Request;" pv) (E1 : Exa Z h0 a1 "com/example/tideline/tideline/session/FetcherSession") (g1 : n0 ≤ a1) :
    MetFree l (⟨"com/example/tideline/tideline/session/FetcherSession", "next", "()Lcom/example/tideline/tideline/session/FetcherSession$Request;"⟩ : MethodName) (head1 (Jvm.Cond.code (⟨"com/example/tideline/tideline/session/FetcherSession", "next", "()Lcom/example/tideline/tideline/session/FetcherSession$Request;"⟩ : MethodName) prog_253_method_4_code 1 (some (.object "com/example/tideline/tideline/session/FetcherSession$Request")) :: ws) ({ frames := 5, cells := 7, slots := 46, locals := 64 } : Room)) (fun a U => a = #[(.ref a1)] ∧ Z.Warmed39 U.vm ∧ U.heap = h0) (fun _ _ _ _ _ => True) (fun _ U o U' => ∃ v L, o = .returned v ∧ Q7 Z a1 p1 p2 x1 x2 hv pv h0 n0 v U'.heap L ∧ FrameEnd U o U' L ({ frames := 5, cells := 7, slots := 46, locals := 64 } : Room).cells ({ frames := 5, cells := 7, slots := 46, locals := 64 } : Room).slots) := by
  refine MetFree.of_bodySF (plainFor_of_name pn_7) hisR ?_
  intro p e s m args below meth c s₁ Bd hml0 hP hK
  obtain ⟨rfl, hZ, hh⟩ := hP
  have hx := Bd.exec
  have hby := Bd.bytes
  have hml : c.maxLocals = 1 := hml0
  have hown : s.vm.findClass "com/example/tideline/tideline/session/FetcherSession" = some m.cls := findClass_of_methodNamed Bd.named
  have hnm := (name_of_methodNamed Bd.named Bd.method).1
  have X0 : Stand p l e ({ frames := 5, cells := 7, slots := 46, locals := 64 } : Room) s m #[(.ref a1)] below meth c s₁ [] 0 0 := Stand.of_body Bd
  have e0 : s₁.heap = h0 := by rw [← hh, Bd.state]; rfl
  have N0 := Fr.nil n0
  have pre0 : ∀ t, Steps p.tables e below (s₁.setTop (mkF m 0 #[.val (.ref a1)] [])) t → Steps p.tables e below (s₁.setTop (entryFrame m #[(.ref a1)] 1)) t := fun t k => castTop (ef_7 m a1) k
  have KK0 := Keep.refl h0 [a1]
  have la1 := E1.lt
  obtain ⟨T1, X1, e1, st1⟩ := getF X0 hx hZ hown (host := "") (Or.inl (hw _ (List.mem_of_getElem? (i := 9) rfl))) Via.refl e0 F_epoch (g := (mkF m 1 #[.val (.ref a1)] [(.ref a1)])) rfl rfl (hb hby d7_1)
  have pre1 : ∀ t, Steps p.tables e below (T1.setTop (mkF m 4 #[.val (.ref a1)] [(.int p2)])) t → Steps p.tables e below (s₁.setTop (entryFrame m #[(.ref a1)] 1)) t := by
    intro t k
    refine pre0 t ?_
    show Steps p.tables e below (s₁.setTop (mkF m 0 #[.val (.ref a1)] [])) _
    refine XS.aloadN X0.here hx rfl (hb hby d7_0) rfl rfl ?_
    show Steps p.tables e below (s₁.setTop (mkF m 1 #[.val (.ref a1)] [(.ref a1)])) _
    refine st1 _ ?_
    exact k
  by_cases c4 : p2 = 0
  · skip
    obtain ⟨T2, h2, X2, e2, E2, A2, D2, -, st2⟩ := newO X1 hx hZ hown (hw _ (List.mem_of_getElem? (i := 11) rfl)) (hw _ (List.mem_of_getElem? (i := 12) rfl)) (hw _ (List.mem_of_getElem? (i := 13) rfl)) e1 (g := (mkF m 8 #[.val (.ref a1)] [(.ref a1)])) rfl (hb hby d7_8) (by decide) (by decide)
    obtain ⟨b2, g2⟩ : ∃ z, z = h0.size := ⟨_, rfl⟩
    rw [← g2] at A2 D2 st2
    have ne_a1_b2 : a1 ≠ b2 := Nat.ne_of_lt (Nat.lt_of_lt_of_le F_epoch.lt (Nat.le_of_eq g2.symm))
    have g_b2 : n0 ≤ b2 := Nat.le_trans Z0 (Nat.le_of_eq g2.symm)
    have sz_b2 : h0.size ≤ b2 := Nat.le_trans KK0.1 (Nat.le_of_eq g2.symm)
    have F_a1_epoch_2 := F_epoch.ext E2
    have F_a1_held_2 := F_held.ext E2
    have F_a1_listing_2 := F_listing.ext E2
    have F_a1_forgetting_2 := F_forgetting.ext E2
    have F_a1_id_2 := F_id.ext E2
    have F_a1_pending_2 := F_pending.ext E2
    have E_a1_2 := E1.ext E2
    have Zs3 := Nat.le_trans Z0 E2.1
    have Kk2 := KK0.ext E2
    have F_byTopic_b2 : Fld Z h2 b2 "com/example/tideline/tideline/session/FetchSession$Partitions" "byTopic" "Ljava/util/Map;" .null := D2 (Or.inr (hw _ (List.mem_of_getElem? (i := 45) rfl))) (ty := (.object "java/util/Map")) (by decide)
    obtain ⟨_, _, ⟨T4, L4, k4, n4⟩, -, X4, ⟨Lc4, hQ4, l4, y4, z4⟩, st4⟩ := X2.specialBack hx (y := (⟨"com/example/tideline/tideline/session/FetchSession$Partitions", "<init>", "()V"⟩ : MethodName)) rfl hown (mvT hZ (hw _ (List.mem_of_getElem? (i := 14) rfl))) (mvT hZ (hw _ (List.mem_of_getElem? (i := 15) rfl))) (mvT hZ (hw _ (List.mem_of_getElem? (i := 16) rfl))) (by decide) (backOf (W := 2) (rm3 l Z a0 hw [] b2 h2 n0 Zs3 F_byTopic_b2 A2 g_b2) hZ (hw _ (List.mem_of_getElem? (i := 16) rfl)) (hw _ (List.mem_of_getElem? (i := 13) rfl)) (by decide) (by decide)) (g := (mkF m 12 #[.val (.ref a1)] [(.ref b2), (.ref b2), (.ref a1)])) rfl (by rw [hml]; rfl) (Steps.refl _) (a := b2) (argsL := []) (rest := [(.ref b2), (.ref a1)]) (lenOf pd_0 rfl) rfl (by show 2 * 0 + _ ≤ _; exact Nat.le_of_eq rfl) (hb hby d7_12) (fun _ _ => ⟨rfl, e2, (by decide : 1 + 1 ≤ _), (by decide : 2 + 12 ≤ _)⟩)
    dsimp only [Pt.U, Pt.locs, Pt.cells, Pt.slots] at X4 l4 y4 z4 st4 hQ4
    subst l4 y4 z4
    obtain ⟨rfl, N4q, K4q, P4q⟩ := hQ4
    have N4 := Fr.app N0 N4q
    have F_a1_epoch_4 := F_a1_epoch_2.keep K4q (ninS ne_a1_b2 nin0)
    have F_a1_held_4 := F_a1_held_2.keep K4q (ninS ne_a1_b2 nin0)
    have F_a1_listing_4 := F_a1_listing_2.keep K4q (ninS ne_a1_b2 nin0)
    have F_a1_forgetting_4 := F_a1_forgetting_2.keep K4q (ninS ne_a1_b2 nin0)
    have F_a1_id_4 := F_a1_id_2.keep K4q (ninS ne_a1_b2 nin0)
    have F_a1_pending_4 := F_a1_pending_2.keep K4q (ninS ne_a1_b2 nin0)
    have E_a1_4 := E_a1_2.keep K4q
    have E_b2_4 := A2.keep K4q
    have Zs5 := Nat.le_trans Zs3 K4q.1
    have Kk4 := Kk2.trans K4q (allS (Or.inr sz_b2) all0)
    obtain ⟨T6, h6, X6, e6, W6, st6⟩ := putF X4 hx hZ hown (host := "") (Or.inl (hw _ (List.mem_of_getElem? (i := 50) rfl))) Via.refl rfl F_a1_forgetting_4 E_a1_4 (Or.inl (hw _ (List.mem_of_getElem? (i := 51) rfl))) (hw _ (List.mem_of_getElem? (i := 1) rfl)) (ty := (.object "com/example/tideline/tideline/session/FetchSession$Partitions")) (by decide) rfl rfl (g := (mkF m 15 #[.val (.ref a1)] [(.ref b2), (.ref a1)])) rfl rfl (hb hby d7_15)
    have N6 := Fr.snoc X6 N4 g1
    have Fw6 := Fld.same W6 F_a1_forgetting_4
    have F_a1_epoch_6 := F_a1_epoch_4.other W6 (Or.inr (slot_ne (Or.inl (hw _ (List.mem_of_getElem? (i := 10) rfl))) (Or.inl (hw _ (List.mem_of_getElem? (i := 51) rfl))) (by decide) (t := .int) (t' := (.object "com/example/tideline/tideline/session/FetchSession$Partitions")) (by decide) (by decide)))
    have F_a1_held_6 := F_a1_held_4.other W6 (Or.inr (slot_ne (Or.inl (hw _ (List.mem_of_getElem? (i := 47) rfl))) (Or.inl (hw _ (List.mem_of_getElem? (i := 51) rfl))) (by decide) (t := (.object "com/example/tideline/tideline/session/FetchSession$Partitions")) (t' := (.object "com/example/tideline/tideline/session/FetchSession$Partitions")) (by decide) (by decide)))
    have F_a1_listing_6 := F_a1_listing_4.other W6 (Or.inr (slot_ne (Or.inl (hw _ (List.mem_of_getElem? (i := 49) rfl))) (Or.inl (hw _ (List.mem_of_getElem? (i := 51) rfl))) (by decide) (t := (.object "com/example/tideline/tideline/session/FetchSession$Partitions")) (t' := (.object "com/example/tideline/tideline/session/FetchSession$Partitions")) (by decide) (by decide)))
    have F_a1_id_6 := F_a1_id_4.other W6 (Or.inr (slot_ne (Or.inl (hw _ (List.mem_of_getElem? (i := 61) rfl))) (Or.inl (hw _ (List.mem_of_getElem? (i := 51) rfl))) (by decide) (t := .int) (t' := (.object "com/example/tideline/tideline/session/FetchSession$Partitions")) (by decide) (by decide)))
    have F_a1_pending_6 := F_a1_pending_4.other W6 (Or.inr (slot_ne (Or.inl (hw _ (List.mem_of_getElem? (i := 80) rfl))) (Or.inl (hw _ (List.mem_of_getElem? (i := 51) rfl))) (by decide) (t := (.object "com/example/tideline/tideline/session/FetcherSession$Request")) (t' := (.object "com/example/tideline/tideline/session/FetchSession$Partitions")) (by decide) (by decide)))
    have E_a1_6 := E_a1_4.wr W6
    have E_b2_6 := E_b2_4.wr W6
    have Zs7 := Nat.le_trans Zs5 (Keep.of_wr W6).1
    have Kk6 := Kk4.wr W6 (Or.inl (List.mem_of_getElem? (i := 0) rfl))
    obtain ⟨T8, h8, X8, e8, E8, A8, D8, -, st8⟩ := newO X6 hx hZ hown (hw _ (List.mem_of_getElem? (i := 57) rfl)) (hw _ (List.mem_of_getElem? (i := 58) rfl)) (hw _ (List.mem_of_getElem? (i := 59) rfl)) e6 (g := (mkF m 19 #[.val (.ref a1)] [(.ref a1)])) rfl (hb hby d7_19) (by decide) (by decide)
    obtain ⟨b8, g8⟩ : ∃ z, z = h6.size := ⟨_, rfl⟩
    rw [← g8] at A8 D8 st8
    have ne_a1_b8 : a1 ≠ b8 := Nat.ne_of_lt (Nat.lt_of_lt_of_le F_a1_epoch_6.lt (Nat.le_of_eq g8.symm))
    have ne_b2_b8 : b2 ≠ b8 := Nat.ne_of_lt (Nat.lt_of_lt_of_le E_b2_6.lt (Nat.le_of_eq g8.symm))
    have g_b8 : n0 ≤ b8 := Nat.le_trans Zs7 (Nat.le_of_eq g8.symm)
    have sz_b8 : h0.size ≤ b8 := Nat.le_trans Kk6.1 (Nat.le_of_eq g8.symm)
    have F_a1_epoch_8 := F_a1_epoch_6.ext E8
    have F_a1_held_8 := F_a1_held_6.ext E8
    have F_a1_listing_8 := F_a1_listing_6.ext E8
    have F_a1_forgetting_8 := Fw6.ext E8
    have F_a1_id_8 := F_a1_id_6.ext E8
    have F_a1_pending_8 := F_a1_pending_6.ext E8
    have E_a1_8 := E_a1_6.ext E8
    have E_b2_8 := E_b2_6.ext E8
    have Zs9 := Nat.le_trans Zs7 E8.1
    have Kk8 := Kk6.ext E8
    have F_sessionId_b8 : Fld Z h8 b8 "com/example/tideline/tideline/session/FetcherSession$Request" "sessionId" "I" (.int (0 : Int32)) := D8 (Or.inr (hw _ (List.mem_of_getElem? (i := 72) rfl))) (ty := .int) (by decide)
    have F_epoch_b8 : Fld Z h8 b8 "com/example/tideline/tideline/session/FetcherSession$Request" "epoch" "I" (.int (0 : Int32)) := D8 (Or.inr (hw _ (List.mem_of_getElem? (i := 74) rfl))) (ty := .int) (by decide)
    have F_listed_b8 : Fld Z h8 b8 "com/example/tideline/tideline/session/FetcherSession$Request" "listed" "Lcom/example/tideline/tideline/session/FetchSession$Partitions;" .null := D8 (Or.inr (hw _ (List.mem_of_getElem? (i := 76) rfl))) (ty := (.object "com/example/tideline/tideline/session/FetchSession$Partitions")) (by decide)
    have F_forgotten_b8 : Fld Z h8 b8 "com/example/tideline/tideline/session/FetcherSession$Request" "forgotten" "Lcom/example/tideline/tideline/session/FetchSession$Partitions;" .null := D8 (Or.inr (hw _ (List.mem_of_getElem? (i := 78) rfl))) (ty := (.object "com/example/tideline/tideline/session/FetchSession$Partitions")) (by decide)
    obtain ⟨T10, X10, e10, st10⟩ := getF X8 hx hZ hown (host := "") (Or.inl (hw _ (List.mem_of_getElem? (i := 60) rfl))) Via.refl e8 F_a1_id_8 (g := (mkF m 24 #[.val (.ref a1)] [(.ref a1), (.ref b8), (.ref b8), (.ref a1)])) rfl rfl (hb hby d7_24)
    obtain ⟨T11, X11, e11, st11⟩ := getF X10 hx hZ hown (host := "") (Or.inl (hw _ (List.mem_of_getElem? (i := 9) rfl))) Via.refl e10 F_a1_epoch_8 (g := (mkF m 28 #[.val (.ref a1)] [(.ref a1), (.int p1), (.ref b8), (.ref b8), (.ref a1)])) rfl rfl (hb hby d7_28)
    obtain ⟨T12, X12, e12, st12⟩ := getF X11 hx hZ hown (host := "") (Or.inl (hw _ (List.mem_of_getElem? (i := 48) rfl))) Via.refl e11 F_a1_listing_8 (g := (mkF m 32 #[.val (.ref a1)] [(.ref a1), (.int p2), (.int p1), (.ref b8), (.ref b8), (.ref a1)])) rfl rfl (hb hby d7_32)
    obtain ⟨T13, X13, e13, st13⟩ := getF X12 hx hZ hown (host := "") (Or.inl (hw _ (List.mem_of_getElem? (i := 50) rfl))) Via.refl e12 F_a1_forgetting_8 (g := (mkF m 36 #[.val (.ref a1)] [(.ref a1), (.ref x1), (.int p2), (.int p1), (.ref b8), (.ref b8), (.ref a1)])) rfl rfl (hb hby d7_36)
    obtain ⟨_, _, ⟨T14, L14, k14, n14⟩, -, X14, ⟨Lc14, hQ14, l14, y14, z14⟩, st14⟩ := X13.specialBack hx (y := (⟨"com/example/tideline/tideline/session/FetcherSession$Request", "<init>", "(IILcom/example/tideline/tideline/session/FetchSession$Partitions;Lcom/example/tideline/tideline/session/FetchSession$Partitions;)V"⟩ : MethodName)) rfl hown (mvT hZ (hw _ (List.mem_of_getElem? (i := 62) rfl))) (mvT hZ (hw _ (List.mem_of_getElem? (i := 63) rfl))) (mvT hZ (hw _ (List.mem_of_getElem? (i := 64) rfl))) (by decide) (backOf (W := 2) (rm8 l Z a0 hw [] b8 p1 p2 x1 b2 h8 n0 Zs9 F_sessionId_b8 F_epoch_b8 F_listed_b8 F_forgotten_b8 A8 g_b8) hZ (hw _ (List.mem_of_getElem? (i := 64) rfl)) (hw _ (List.mem_of_getElem? (i := 59) rfl)) (by decide) (by decide)) (g := (mkF m 39 #[.val (.ref a1)] [(.ref b2), (.ref x1), (.int p2), (.int p1), (.ref b8), (.ref b8), (.ref a1)])) rfl (by rw [hml]; rfl) (Steps.refl _) (a := b8) (argsL := [(.int p1), (.int p2), (.ref x1), (.ref b2)]) (rest := [(.ref b8), (.ref a1)]) (lenOf pd_1 rfl) rfl (by show 2 * 0 + _ ≤ _; exact Nat.le_of_eq rfl) (hb hby d7_39) (fun _ _ => ⟨rfl, e13, (by decide : 3 + 0 ≤ _), (by decide : 18 + 0 ≤ _)⟩)
    dsimp only [Pt.U, Pt.locs, Pt.cells, Pt.slots] at X14 l14 y14 z14 st14 hQ14
    subst l14 y14 z14
    obtain ⟨rfl, N14q, K14q, E14q, F0_14q, F1_14q, F2_14q, F3_14q⟩ := hQ14
    have N14 := Fr.app N6 N14q
    have F_a1_epoch_14 := F_a1_epoch_8.keep K14q (ninS ne_a1_b8 nin0)
    have F_a1_held_14 := F_a1_held_8.keep K14q (ninS ne_a1_b8 nin0)
    have F_a1_listing_14 := F_a1_listing_8.keep K14q (ninS ne_a1_b8 nin0)
    have F_a1_forgetting_14 := F_a1_forgetting_8.keep K14q (ninS ne_a1_b8 nin0)
    have F_a1_id_14 := F_a1_id_8.keep K14q (ninS ne_a1_b8 nin0)
    have F_a1_pending_14 := F_a1_pending_8.keep K14q (ninS ne_a1_b8 nin0)
    have E_a1_14 := E_a1_8.keep K14q
    have E_b2_14 := E_b2_8.keep K14q
    have E_b8_14 := A8.keep K14q
    have Zs15 := Nat.le_trans Zs9 K14q.1
    have Kk14 := Kk8.trans K14q (allS (Or.inr sz_b8) all0)
    obtain ⟨T16, h16, X16, e16, W16, st16⟩ := putF X14 hx hZ hown (host := "") (Or.inl (hw _ (List.mem_of_getElem? (i := 79) rfl))) Via.refl rfl F_a1_pending_14 E_a1_14 (Or.inl (hw _ (List.mem_of_getElem? (i := 80) rfl))) (hw _ (List.mem_of_getElem? (i := 1) rfl)) (ty := (.object "com/example/tideline/tideline/session/FetcherSession$Request")) (by decide) rfl rfl (g := (mkF m 42 #[.val (.ref a1)] [(.ref b8), (.ref a1)])) rfl rfl (hb hby d7_42)
    have N16 := Fr.snoc X16 N14 g1
    have Fw16 := Fld.same W16 F_a1_pending_14
    have F_a1_epoch_16 := F_a1_epoch_14.other W16 (Or.inr (slot_ne (Or.inl (hw _ (List.mem_of_getElem? (i := 10) rfl))) (Or.inl (hw _ (List.mem_of_getElem? (i := 80) rfl))) (by decide) (t := .int) (t' := (.object "com/example/tideline/tideline/session/FetcherSession$Request")) (by decide) (by decide)))
    have F_a1_held_16 := F_a1_held_14.other W16 (Or.inr (slot_ne (Or.inl (hw _ (List.mem_of_getElem? (i := 47) rfl))) (Or.inl (hw _ (List.mem_of_getElem? (i := 80) rfl))) (by decide) (t := (.object "com/example/tideline/tideline/session/FetchSession$Partitions")) (t' := (.object "com/example/tideline/tideline/session/FetcherSession$Request")) (by decide) (by decide)))
    have F_a1_listing_16 := F_a1_listing_14.other W16 (Or.inr (slot_ne (Or.inl (hw _ (List.mem_of_getElem? (i := 49) rfl))) (Or.inl (hw _ (List.mem_of_getElem? (i := 80) rfl))) (by decide) (t := (.object "com/example/tideline/tideline/session/FetchSession$Partitions")) (t' := (.object "com/example/tideline/tideline/session/FetcherSession$Request")) (by decide) (by decide)))
    have F_a1_forgetting_16 := F_a1_forgetting_14.other W16 (Or.inr (slot_ne (Or.inl (hw _ (List.mem_of_getElem? (i := 51) rfl))) (Or.inl (hw _ (List.mem_of_getElem? (i := 80) rfl))) (by decide) (t := (.object "com/example/tideline/tideline/session/FetchSession$Partitions")) (t' := (.object "com/example/tideline/tideline/session/FetcherSession$Request")) (by decide) (by decide)))
    have F_a1_id_16 := F_a1_id_14.other W16 (Or.inr (slot_ne (Or.inl (hw _ (List.mem_of_getElem? (i := 61) rfl))) (Or.inl (hw _ (List.mem_of_getElem? (i := 80) rfl))) (by decide) (t := .int) (t' := (.object "com/example/tideline/tideline/session/FetcherSession$Request")) (by decide) (by decide)))
    have E_a1_16 := E_a1_14.wr W16
    have E_b2_16 := E_b2_14.wr W16
    have E_b8_16 := E14q.wr W16
    have F_b8_sessionId_16 := F0_14q.other W16 (Or.inl (Ne.symm ne_a1_b8))
    have F_b8_epoch_16 := F1_14q.other W16 (Or.inl (Ne.symm ne_a1_b8))
    have F_b8_listed_16 := F2_14q.other W16 (Or.inl (Ne.symm ne_a1_b8))
    have F_b8_forgotten_16 := F3_14q.other W16 (Or.inl (Ne.symm ne_a1_b8))
    have Zs17 := Nat.le_trans Zs15 (Keep.of_wr W16).1
    have Kk16 := Kk14.wr W16 (Or.inl (List.mem_of_getElem? (i := 0) rfl))
    obtain ⟨T18, h18, X18, e18, E18, A18, D18, -, st18⟩ := newO X16 hx hZ hown (hw _ (List.mem_of_getElem? (i := 11) rfl)) (hw _ (List.mem_of_getElem? (i := 12) rfl)) (hw _ (List.mem_of_getElem? (i := 13) rfl)) e16 (g := (mkF m 46 #[.val (.ref a1)] [(.ref a1)])) rfl (hb hby d7_46) (by decide) (by decide)
    obtain ⟨b18, g18⟩ : ∃ z, z = h16.size := ⟨_, rfl⟩
    rw [← g18] at A18 D18 st18
    have ne_a1_b18 : a1 ≠ b18 := Nat.ne_of_lt (Nat.lt_of_lt_of_le F_a1_epoch_16.lt (Nat.le_of_eq g18.symm))
    have ne_b2_b18 : b2 ≠ b18 := Nat.ne_of_lt (Nat.lt_of_lt_of_le E_b2_16.lt (Nat.le_of_eq g18.symm))
    have ne_b8_b18 : b8 ≠ b18 := Nat.ne_of_lt (Nat.lt_of_lt_of_le E_b8_16.lt (Nat.le_of_eq g18.symm))
    have g_b18 : n0 ≤ b18 := Nat.le_trans Zs17 (Nat.le_of_eq g18.symm)
    have sz_b18 : h0.size ≤ b18 := Nat.le_trans Kk16.1 (Nat.le_of_eq g18.symm)
    have F_a1_epoch_18 := F_a1_epoch_16.ext E18
    have F_a1_held_18 := F_a1_held_16.ext E18
    have F_a1_listing_18 := F_a1_listing_16.ext E18
    have F_a1_forgetting_18 := F_a1_forgetting_16.ext E18
    have F_a1_id_18 := F_a1_id_16.ext E18
    have F_a1_pending_18 := Fw16.ext E18
    have E_a1_18 := E_a1_16.ext E18
    have E_b2_18 := E_b2_16.ext E18
    have E_b8_18 := E_b8_16.ext E18
    have F_b8_sessionId_18 := F_b8_sessionId_16.ext E18
    have F_b8_epoch_18 := F_b8_epoch_16.ext E18
    have F_b8_listed_18 := F_b8_listed_16.ext E18
    have F_b8_forgotten_18 := F_b8_forgotten_16.ext E18
    have Zs19 := Nat.le_trans Zs17 E18.1
    have Kk18 := Kk16.ext E18
    have F_byTopic_b18 : Fld Z h18 b18 "com/example/tideline/tideline/session/FetchSession$Partitions" "byTopic" "Ljava/util/Map;" .null := D18 (Or.inr (hw _ (List.mem_of_getElem? (i := 45) rfl))) (ty := (.object "java/util/Map")) (by decide)
    obtain ⟨_, _, ⟨T20, L20, k20, n20⟩, -, X20, ⟨Lc20, hQ20, l20, y20, z20⟩, st20⟩ := X18.specialBack hx (y := (⟨"com/example/tideline/tideline/session/FetchSession$Partitions", "<init>", "()V"⟩ : MethodName)) rfl hown (mvT hZ (hw _ (List.mem_of_getElem? (i := 14) rfl))) (mvT hZ (hw _ (List.mem_of_getElem? (i := 15) rfl))) (mvT hZ (hw _ (List.mem_of_getElem? (i := 16) rfl))) (by decide) (backOf (W := 2) (rm3 l Z a0 hw [] b18 h18 n0 Zs19 F_byTopic_b18 A18 g_b18) hZ (hw _ (List.mem_of_getElem? (i := 16) rfl)) (hw _ (List.mem_of_getElem? (i := 13) rfl)) (by decide) (by decide)) (g := (mkF m 50 #[.val (.ref a1)] [(.ref b18), (.ref b18), (.ref a1)])) rfl (by rw [hml]; rfl) (Steps.refl _) (a := b18) (argsL := []) (rest := [(.ref b18), (.ref a1)]) (lenOf pd_0 rfl) rfl (by show 2 * 0 + _ ≤ _; exact Nat.le_of_eq rfl) (hb hby d7_50) (fun _ _ => ⟨rfl, e18, (by decide : 4 + 1 ≤ _), (by decide : 20 + 12 ≤ _)⟩)
    dsimp only [Pt.U, Pt.locs, Pt.cells, Pt.slots] at X20 l20 y20 z20 st20 hQ20
    subst l20 y20 z20
    obtain ⟨rfl, N20q, K20q, P20q⟩ := hQ20
    have N20 := Fr.app N16 N20q
    have F_a1_epoch_20 := F_a1_epoch_18.keep K20q (ninS ne_a1_b18 nin0)
    have F_a1_held_20 := F_a1_held_18.keep K20q (ninS ne_a1_b18 nin0)
    have F_a1_listing_20 := F_a1_listing_18.keep K20q (ninS ne_a1_b18 nin0)
    have F_a1_forgetting_20 := F_a1_forgetting_18.keep K20q (ninS ne_a1_b18 nin0)
    have F_a1_id_20 := F_a1_id_18.keep K20q (ninS ne_a1_b18 nin0)
    have F_a1_pending_20 := F_a1_pending_18.keep K20q (ninS ne_a1_b18 nin0)
    have E_a1_20 := E_a1_18.keep K20q
    have E_b2_20 := E_b2_18.keep K20q
    have E_b8_20 := E_b8_18.keep K20q
    have F_b8_sessionId_20 := F_b8_sessionId_18.keep K20q (ninS ne_b8_b18 nin0)
    have F_b8_epoch_20 := F_b8_epoch_18.keep K20q (ninS ne_b8_b18 nin0)
    have F_b8_listed_20 := F_b8_listed_18.keep K20q (ninS ne_b8_b18 nin0)
    have F_b8_forgotten_20 := F_b8_forgotten_18.keep K20q (ninS ne_b8_b18 nin0)
    have E_b18_20 := A18.keep K20q
    have Zs21 := Nat.le_trans Zs19 K20q.1
    have Kk20 := Kk18.trans K20q (allS (Or.inr sz_b18) all0)
    obtain ⟨T22, h22, X22, e22, W22, st22⟩ := putF X20 hx hZ hown (host := "") (Or.inl (hw _ (List.mem_of_getElem? (i := 48) rfl))) Via.refl rfl F_a1_listing_20 E_a1_20 (Or.inl (hw _ (List.mem_of_getElem? (i := 49) rfl))) (hw _ (List.mem_of_getElem? (i := 1) rfl)) (ty := (.object "com/example/tideline/tideline/session/FetchSession$Partitions")) (by decide) rfl rfl (g := (mkF m 53 #[.val (.ref a1)] [(.ref b18), (.ref a1)])) rfl rfl (hb hby d7_53)
    have N22 := Fr.snoc X22 N20 g1
    have Fw22 := Fld.same W22 F_a1_listing_20
    have F_a1_epoch_22 := F_a1_epoch_20.other W22 (Or.inr (slot_ne (Or.inl (hw _ (List.mem_of_getElem? (i := 10) rfl))) (Or.inl (hw _ (List.mem_of_getElem? (i := 49) rfl))) (by decide) (t := .int) (t' := (.object "com/example/tideline/tideline/session/FetchSession$Partitions")) (by decide) (by decide)))
    have F_a1_held_22 := F_a1_held_20.other W22 (Or.inr (slot_ne (Or.inl (hw _ (List.mem_of_getElem? (i := 47) rfl))) (Or.inl (hw _ (List.mem_of_getElem? (i := 49) rfl))) (by decide) (t := (.object "com/example/tideline/tideline/session/FetchSession$Partitions")) (t' := (.object "com/example/tideline/tideline/session/FetchSession$Partitions")) (by decide) (by decide)))
    have F_a1_forgetting_22 := F_a1_forgetting_20.other W22 (Or.inr (slot_ne (Or.inl (hw _ (List.mem_of_getElem? (i := 51) rfl))) (Or.inl (hw _ (List.mem_of_getElem? (i := 49) rfl))) (by decide) (t := (.object "com/example/tideline/tideline/session/FetchSession$Partitions")) (t' := (.object "com/example/tideline/tideline/session/FetchSession$Partitions")) (by decide) (by decide)))
    have F_a1_id_22 := F_a1_id_20.other W22 (Or.inr (slot_ne (Or.inl (hw _ (List.mem_of_getElem? (i := 61) rfl))) (Or.inl (hw _ (List.mem_of_getElem? (i := 49) rfl))) (by decide) (t := .int) (t' := (.object "com/example/tideline/tideline/session/FetchSession$Partitions")) (by decide) (by decide)))
    have F_a1_pending_22 := F_a1_pending_20.other W22 (Or.inr (slot_ne (Or.inl (hw _ (List.mem_of_getElem? (i := 80) rfl))) (Or.inl (hw _ (List.mem_of_getElem? (i := 49) rfl))) (by decide) (t := (.object "com/example/tideline/tideline/session/FetcherSession$Request")) (t' := (.object "com/example/tideline/tideline/session/FetchSession$Partitions")) (by decide) (by decide)))
    have E_a1_22 := E_a1_20.wr W22
    have E_b2_22 := E_b2_20.wr W22
    have E_b8_22 := E_b8_20.wr W22
    have F_b8_sessionId_22 := F_b8_sessionId_20.other W22 (Or.inl (Ne.symm ne_a1_b8))
    have F_b8_epoch_22 := F_b8_epoch_20.other W22 (Or.inl (Ne.symm ne_a1_b8))
    have F_b8_listed_22 := F_b8_listed_20.other W22 (Or.inl (Ne.symm ne_a1_b8))
    have F_b8_forgotten_22 := F_b8_forgotten_20.other W22 (Or.inl (Ne.symm ne_a1_b8))
    have E_b18_22 := E_b18_20.wr W22
    have P_b18_22 := (P20q h16.size (Nat.le_of_eq g18.symm)).wr W22 E_a1_16.lt
    have Zs23 := Nat.le_trans Zs21 (Keep.of_wr W22).1
    have Kk22 := Kk20.wr W22 (Or.inl (List.mem_of_getElem? (i := 0) rfl))
    obtain ⟨T24, h24, X24, e24, E24, A24, D24, -, st24⟩ := newO X22 hx hZ hown (hw _ (List.mem_of_getElem? (i := 11) rfl)) (hw _ (List.mem_of_getElem? (i := 12) rfl)) (hw _ (List.mem_of_getElem? (i := 13) rfl)) e22 (g := (mkF m 57 #[.val (.ref a1)] [(.ref a1)])) rfl (hb hby d7_57) (by decide) (by decide)
    obtain ⟨b24, g24⟩ : ∃ z, z = h22.size := ⟨_, rfl⟩
    rw [← g24] at A24 D24 st24
    have ne_a1_b24 : a1 ≠ b24 := Nat.ne_of_lt (Nat.lt_of_lt_of_le F_a1_epoch_22.lt (Nat.le_of_eq g24.symm))
    have ne_b2_b24 : b2 ≠ b24 := Nat.ne_of_lt (Nat.lt_of_lt_of_le E_b2_22.lt (Nat.le_of_eq g24.symm))
    have ne_b8_b24 : b8 ≠ b24 := Nat.ne_of_lt (Nat.lt_of_lt_of_le E_b8_22.lt (Nat.le_of_eq g24.symm))
    have ne_b18_b24 : b18 ≠ b24 := Nat.ne_of_lt (Nat.lt_of_lt_of_le E_b18_22.lt (Nat.le_of_eq g24.symm))
    have g_b24 : n0 ≤ b24 := Nat.le_trans Zs23 (Nat.le_of_eq g24.symm)
    have sz_b24 : h0.size ≤ b24 := Nat.le_trans Kk22.1 (Nat.le_of_eq g24.symm)
    have F_a1_epoch_24 := F_a1_epoch_22.ext E24
    have F_a1_held_24 := F_a1_held_22.ext E24
    have F_a1_listing_24 := Fw22.ext E24
    have F_a1_forgetting_24 := F_a1_forgetting_22.ext E24
    have F_a1_id_24 := F_a1_id_22.ext E24
    have F_a1_pending_24 := F_a1_pending_22.ext E24
    have E_a1_24 := E_a1_22.ext E24
    have E_b2_24 := E_b2_22.ext E24
    have E_b8_24 := E_b8_22.ext E24
    have F_b8_sessionId_24 := F_b8_sessionId_22.ext E24
    have F_b8_epoch_24 := F_b8_epoch_22.ext E24
    have F_b8_listed_24 := F_b8_listed_22.ext E24
    have F_b8_forgotten_24 := F_b8_forgotten_22.ext E24
    have E_b18_24 := E_b18_22.ext E24
    have P_b18_24 := P_b18_22.ext E24
    have Zs25 := Nat.le_trans Zs23 E24.1
    have Kk24 := Kk22.ext E24
    have F_byTopic_b24 : Fld Z h24 b24 "com/example/tideline/tideline/session/FetchSession$Partitions" "byTopic" "Ljava/util/Map;" .null := D24 (Or.inr (hw _ (List.mem_of_getElem? (i := 45) rfl))) (ty := (.object "java/util/Map")) (by decide)
    obtain ⟨_, _, ⟨T26, L26, k26, n26⟩, -, X26, ⟨Lc26, hQ26, l26, y26, z26⟩, st26⟩ := X24.specialBack hx (y := (⟨"com/example/tideline/tideline/session/FetchSession$Partitions", "<init>", "()V"⟩ : MethodName)) rfl hown (mvT hZ (hw _ (List.mem_of_getElem? (i := 14) rfl))) (mvT hZ (hw _ (List.mem_of_getElem? (i := 15) rfl))) (mvT hZ (hw _ (List.mem_of_getElem? (i := 16) rfl))) (by decide) (backOf (W := 2) (rm3 l Z a0 hw [] b24 h24 n0 Zs25 F_byTopic_b24 A24 g_b24) hZ (hw _ (List.mem_of_getElem? (i := 16) rfl)) (hw _ (List.mem_of_getElem? (i := 13) rfl)) (by decide) (by decide)) (g := (mkF m 61 #[.val (.ref a1)] [(.ref b24), (.ref b24), (.ref a1)])) rfl (by rw [hml]; rfl) (Steps.refl _) (a := b24) (argsL := []) (rest := [(.ref b24), (.ref a1)]) (lenOf pd_0 rfl) rfl (by show 2 * 0 + _ ≤ _; exact Nat.le_of_eq rfl) (hb hby d7_61) (fun _ _ => ⟨rfl, e24, (by decide : 6 + 1 ≤ _), (by decide : 34 + 12 ≤ _)⟩)
    dsimp only [Pt.U, Pt.locs, Pt.cells, Pt.slots] at X26 l26 y26 z26 st26 hQ26
    subst l26 y26 z26
    obtain ⟨rfl, N26q, K26q, P26q⟩ := hQ26
    have N26 := Fr.app N22 N26q
    have P_b18_26m := P_b18_22.made E24 K26q g24
    have F_a1_epoch_26 := F_a1_epoch_24.keep K26q (ninS ne_a1_b24 nin0)
    have F_a1_held_26 := F_a1_held_24.keep K26q (ninS ne_a1_b24 nin0)
    have F_a1_listing_26 := F_a1_listing_24.keep K26q (ninS ne_a1_b24 nin0)
    have F_a1_forgetting_26 := F_a1_forgetting_24.keep K26q (ninS ne_a1_b24 nin0)
    have F_a1_id_26 := F_a1_id_24.keep K26q (ninS ne_a1_b24 nin0)
    have F_a1_pending_26 := F_a1_pending_24.keep K26q (ninS ne_a1_b24 nin0)
    have E_a1_26 := E_a1_24.keep K26q
    have E_b2_26 := E_b2_24.keep K26q
    have E_b8_26 := E_b8_24.keep K26q
    have F_b8_sessionId_26 := F_b8_sessionId_24.keep K26q (ninS ne_b8_b24 nin0)
    have F_b8_epoch_26 := F_b8_epoch_24.keep K26q (ninS ne_b8_b24 nin0)
    have F_b8_listed_26 := F_b8_listed_24.keep K26q (ninS ne_b8_b24 nin0)
    have F_b8_forgotten_26 := F_b8_forgotten_24.keep K26q (ninS ne_b8_b24 nin0)
    have E_b18_26 := E_b18_24.keep K26q
    have E_b24_26 := A24.keep K26q
    have Zs27 := Nat.le_trans Zs25 K26q.1
    have Kk26 := Kk24.trans K26q (allS (Or.inr sz_b24) all0)
    obtain ⟨T28, h28, X28, e28, W28, st28⟩ := putF X26 hx hZ hown (host := "") (Or.inl (hw _ (List.mem_of_getElem? (i := 50) rfl))) Via.refl rfl F_a1_forgetting_26 E_a1_26 (Or.inl (hw _ (List.mem_of_getElem? (i := 51) rfl))) (hw _ (List.mem_of_getElem? (i := 1) rfl)) (ty := (.object "com/example/tideline/tideline/session/FetchSession$Partitions")) (by decide) rfl rfl (g := (mkF m 64 #[.val (.ref a1)] [(.ref b24), (.ref a1)])) rfl rfl (hb hby d7_64)
    have N28 := Fr.snoc X28 N26 g1
    have Fw28 := Fld.same W28 F_a1_forgetting_26
    have F_a1_epoch_28 := F_a1_epoch_26.other W28 (Or.inr (slot_ne (Or.inl (hw _ (List.mem_of_getElem? (i := 10) rfl))) (Or.inl (hw _ (List.mem_of_getElem? (i := 51) rfl))) (by decide) (t := .int) (t' := (.object "com/example/tideline/tideline/session/FetchSession$Partitions")) (by decide) (by decide)))
    have F_a1_held_28 := F_a1_held_26.other W28 (Or.inr (slot_ne (Or.inl (hw _ (List.mem_of_getElem? (i := 47) rfl))) (Or.inl (hw _ (List.mem_of_getElem? (i := 51) rfl))) (by decide) (t := (.object "com/example/tideline/tideline/session/FetchSession$Partitions")) (t' := (.object "com/example/tideline/tideline/session/FetchSession$Partitions")) (by decide) (by decide)))
    have F_a1_listing_28 := F_a1_listing_26.other W28 (Or.inr (slot_ne (Or.inl (hw _ (List.mem_of_getElem? (i := 49) rfl))) (Or.inl (hw _ (List.mem_of_getElem? (i := 51) rfl))) (by decide) (t := (.object "com/example/tideline/tideline/session/FetchSession$Partitions")) (t' := (.object "com/example/tideline/tideline/session/FetchSession$Partitions")) (by decide) (by decide)))
    have F_a1_id_28 := F_a1_id_26.other W28 (Or.inr (slot_ne (Or.inl (hw _ (List.mem_of_getElem? (i := 61) rfl))) (Or.inl (hw _ (List.mem_of_getElem? (i := 51) rfl))) (by decide) (t := .int) (t' := (.object "com/example/tideline/tideline/session/FetchSession$Partitions")) (by decide) (by decide)))
    have F_a1_pending_28 := F_a1_pending_26.other W28 (Or.inr (slot_ne (Or.inl (hw _ (List.mem_of_getElem? (i := 80) rfl))) (Or.inl (hw _ (List.mem_of_getElem? (i := 51) rfl))) (by decide) (t := (.object "com/example/tideline/tideline/session/FetcherSession$Request")) (t' := (.object "com/example/tideline/tideline/session/FetchSession$Partitions")) (by decide) (by decide)))
    have E_a1_28 := E_a1_26.wr W28
    have E_b2_28 := E_b2_26.wr W28
    have E_b8_28 := E_b8_26.wr W28
    have F_b8_sessionId_28 := F_b8_sessionId_26.other W28 (Or.inl (Ne.symm ne_a1_b8))
    have F_b8_epoch_28 := F_b8_epoch_26.other W28 (Or.inl (Ne.symm ne_a1_b8))
    have F_b8_listed_28 := F_b8_listed_26.other W28 (Or.inl (Ne.symm ne_a1_b8))
    have F_b8_forgotten_28 := F_b8_forgotten_26.other W28 (Or.inl (Ne.symm ne_a1_b8))
    have E_b18_28 := E_b18_26.wr W28
    have E_b24_28 := E_b24_26.wr W28
    have P_b18_28 := P_b18_26m.wr W28 E_a1_16.lt
    have P_b24_28 := (P26q h22.size (Nat.le_of_eq g24.symm)).wr W28 E_a1_22.lt
    have Zs29 := Nat.le_trans Zs27 (Keep.of_wr W28).1
    have Kk28 := Kk26.wr W28 (Or.inl (List.mem_of_getElem? (i := 0) rfl))
    obtain ⟨T30, X30, e30, st30⟩ := getF X28 hx hZ hown (host := "") (Or.inl (hw _ (List.mem_of_getElem? (i := 79) rfl))) Via.refl e28 F_a1_pending_28 (g := (mkF m 68 #[.val (.ref a1)] [(.ref a1)])) rfl rfl (hb hby d7_68)
    obtain ⟨fs, hr, hrun, hended, hW, hsame⟩ := X30.leave (v := some (.ref b8)) (fun h => by rw [Bd.returns] at h; cases h)
    refine ⟨_, _, pre1 _ ?_, hrun, hended, _, _, rfl, ?_, ⟨_, rfl⟩, hW, hsame.mono (by decide) (by decide)⟩
    · show Steps p.tables e below (T1.setTop (mkF m 4 #[.val (.ref a1)] [(.int p2)])) _
      refine XS.ifNo X1.here hx rfl (hb hby d7_4) rfl ((if0 _ _).trans (teq c4).2) ?_
      show Steps p.tables e below (T1.setTop (mkF m 7 #[.val (.ref a1)] [])) _
      refine XS.aloadN X1.here hx rfl (hb hby d7_7) rfl rfl ?_
      show Steps p.tables e below (T1.setTop (mkF m 8 #[.val (.ref a1)] [(.ref a1)])) _
      refine st2 _ ?_
      show Steps p.tables e below (T2.setTop (mkF m 11 #[.val (.ref a1)] [(.ref b2), (.ref a1)])) _
      refine XS.dup X2.here hx rfl (hb hby d7_11) rfl rfl ?_
      show Steps p.tables e below (T2.setTop (mkF m 12 #[.val (.ref a1)] [(.ref b2), (.ref b2), (.ref a1)])) _
      refine st4.trans ?_
      show Steps p.tables e below (T4.setTop (mkF m 15 #[.val (.ref a1)] [(.ref b2), (.ref a1)])) _
      refine st6 _ ?_
      show Steps p.tables e below (T6.setTop (mkF m 18 #[.val (.ref a1)] [])) _
      refine XS.aloadN X6.here hx rfl (hb hby d7_18) rfl rfl ?_
      show Steps p.tables e below (T6.setTop (mkF m 19 #[.val (.ref a1)] [(.ref a1)])) _
      refine st8 _ ?_
      show Steps p.tables e below (T8.setTop (mkF m 22 #[.val (.ref a1)] [(.ref b8), (.ref a1)])) _
      refine XS.dup X8.here hx rfl (hb hby d7_22) rfl rfl ?_
      show Steps p.tables e below (T8.setTop (mkF m 23 #[.val (.ref a1)] [(.ref b8), (.ref b8), (.ref a1)])) _
      refine XS.aloadN X8.here hx rfl (hb hby d7_23) rfl rfl ?_
      show Steps p.tables e below (T8.setTop (mkF m 24 #[.val (.ref a1)] [(.ref a1), (.ref b8), (.ref b8), (.ref a1)])) _
      refine st10 _ ?_
      show Steps p.tables e below (T10.setTop (mkF m 27 #[.val (.ref a1)] [(.int p1), (.ref b8), (.ref b8), (.ref a1)])) _
      refine XS.aloadN X10.here hx rfl (hb hby d7_27) rfl rfl ?_
      show Steps p.tables e below (T10.setTop (mkF m 28 #[.val (.ref a1)] [(.ref a1), (.int p1), (.ref b8), (.ref b8), (.ref a1)])) _
      refine st11 _ ?_
      show Steps p.tables e below (T11.setTop (mkF m 31 #[.val (.ref a1)] [(.int p2), (.int p1), (.ref b8), (.ref b8), (.ref a1)])) _
      refine XS.aloadN X11.here hx rfl (hb hby d7_31) rfl rfl ?_
      show Steps p.tables e below (T11.setTop (mkF m 32 #[.val (.ref a1)] [(.ref a1), (.int p2), (.int p1), (.ref b8), (.ref b8), (.ref a1)])) _
      refine st12 _ ?_
      show Steps p.tables e below (T12.setTop (mkF m 35 #[.val (.ref a1)] [(.ref x1), (.int p2), (.int p1), (.ref b8), (.ref b8), (.ref a1)])) _
      refine XS.aloadN X12.here hx rfl (hb hby d7_35) rfl rfl ?_
      show Steps p.tables e below (T12.setTop (mkF m 36 #[.val (.ref a1)] [(.ref a1), (.ref x1), (.int p2), (.int p1), (.ref b8), (.ref b8), (.ref a1)])) _
      refine st13 _ ?_
      show Steps p.tables e below (T13.setTop (mkF m 39 #[.val (.ref a1)] [(.ref b2), (.ref x1), (.int p2), (.int p1), (.ref b8), (.ref b8), (.ref a1)])) _
      refine st14.trans ?_
      show Steps p.tables e below (T14.setTop (mkF m 42 #[.val (.ref a1)] [(.ref b8), (.ref a1)])) _
      refine st16 _ ?_
      show Steps p.tables e below (T16.setTop (mkF m 45 #[.val (.ref a1)] [])) _
      refine XS.aloadN X16.here hx rfl (hb hby d7_45) rfl rfl ?_
      show Steps p.tables e below (T16.setTop (mkF m 46 #[.val (.ref a1)] [(.ref a1)])) _
      refine st18 _ ?_
      show Steps p.tables e below (T18.setTop (mkF m 49 #[.val (.ref a1)] [(.ref b18), (.ref a1)])) _
      refine XS.dup X18.here hx rfl (hb hby d7_49) rfl rfl ?_
      show Steps p.tables e below (T18.setTop (mkF m 50 #[.val (.ref a1)] [(.ref b18), (.ref b18), (.ref a1)])) _
      refine st20.trans ?_
      show Steps p.tables e below (T20.setTop (mkF m 53 #[.val (.ref a1)] [(.ref b18), (.ref a1)])) _
      refine st22 _ ?_
      show Steps p.tables e below (T22.setTop (mkF m 56 #[.val (.ref a1)] [])) _
      refine XS.aloadN X22.here hx rfl (hb hby d7_56) rfl rfl ?_
      show Steps p.tables e below (T22.setTop (mkF m 57 #[.val (.ref a1)] [(.ref a1)])) _
      refine st24 _ ?_
      show Steps p.tables e below (T24.setTop (mkF m 60 #[.val (.ref a1)] [(.ref b24), (.ref a1)])) _
      refine XS.dup X24.here hx rfl (hb hby d7_60) rfl rfl ?_
      show Steps p.tables e below (T24.setTop (mkF m 61 #[.val (.ref a1)] [(.ref b24), (.ref b24), (.ref a1)])) _
      refine st26.trans ?_
      show Steps p.tables e below (T26.setTop (mkF m 64 #[.val (.ref a1)] [(.ref b24), (.ref a1)])) _
      refine st28 _ ?_
      show Steps p.tables e below (T28.setTop (mkF m 67 #[.val (.ref a1)] [])) _
      refine XS.aloadN X28.here hx rfl (hb hby d7_67) rfl rfl ?_
      show Steps p.tables e below (T28.setTop (mkF m 68 #[.val (.ref a1)] [(.ref a1)])) _
      refine st30 _ ?_
      show Steps p.tables e below (T30.setTop (mkF m 71 #[.val (.ref a1)] [(.ref b8)])) _
      exact retOut X30 hx Bd.returns rfl (Or.inr (Or.inr (Or.inr (Or.inr ⟨rfl, rfl, rfl⟩)))) (hb hby d7_71) hr
    · show Q7 Z a1 p1 p2 x1 x2 hv pv h0 n0 _ T30.heap _
      rw [e30]
      exact ⟨b8, b18, b24, _, rfl, N28, Kk28, E_a1_28, F_a1_id_28, F_a1_epoch_28, F_a1_held_28, F_a1_pending_28, F_a1_listing_28, Fw28, (P_b18_28.mono Kk16.1), (P_b24_28.mono Kk22.1), E_b8_28, sz_b8, F_b8_sessionId_28, F_b8_epoch_28, F_b8_listed_28, F_b8_forgotten_28, fun q => absurd c4 q⟩
  · skip
    obtain ⟨T31, h31, X31, e31, E31, A31, D31, -, st31⟩ := newO X1 hx hZ hown (hw _ (List.mem_of_getElem? (i := 57) rfl)) (hw _ (List.mem_of_getElem? (i := 58) rfl)) (hw _ (List.mem_of_getElem? (i := 59) rfl)) e1 (g := (mkF m 19 #[.val (.ref a1)] [(.ref a1)])) rfl (hb hby d7_19) (by decide) (by decide)
    obtain ⟨b31, g31⟩ : ∃ z, z = h0.size := ⟨_, rfl⟩
    rw [← g31] at A31 D31 st31
    have ne_a1_b31 : a1 ≠ b31 := Nat.ne_of_lt (Nat.lt_of_lt_of_le F_epoch.lt (Nat.le_of_eq g31.symm))
    have g_b31 : n0 ≤ b31 := Nat.le_trans Z0 (Nat.le_of_eq g31.symm)
    have sz_b31 : h0.size ≤ b31 := Nat.le_trans KK0.1 (Nat.le_of_eq g31.symm)
    have F_a1_epoch_31 := F_epoch.ext E31
    have F_a1_held_31 := F_held.ext E31
    have F_a1_listing_31 := F_listing.ext E31
    have F_a1_forgetting_31 := F_forgetting.ext E31
    have F_a1_id_31 := F_id.ext E31
    have F_a1_pending_31 := F_pending.ext E31
    have E_a1_31 := E1.ext E31
    have Zs32 := Nat.le_trans Z0 E31.1
    have Kk31 := KK0.ext E31
    have F_sessionId_b31 : Fld Z h31 b31 "com/example/tideline/tideline/session/FetcherSession$Request" "sessionId" "I" (.int (0 : Int32)) := D31 (Or.inr (hw _ (List.mem_of_getElem? (i := 72) rfl))) (ty := .int) (by decide)
    have F_epoch_b31 : Fld Z h31 b31 "com/example/tideline/tideline/session/FetcherSession$Request" "epoch" "I" (.int (0 : Int32)) := D31 (Or.inr (hw _ (List.mem_of_getElem? (i := 74) rfl))) (ty := .int) (by decide)
    have F_listed_b31 : Fld Z h31 b31 "com/example/tideline/tideline/session/FetcherSession$Request" "listed" "Lcom/example/tideline/tideline/session/FetchSession$Partitions;" .null := D31 (Or.inr (hw _ (List.mem_of_getElem? (i := 76) rfl))) (ty := (.object "com/example/tideline/tideline/session/FetchSession$Partitions")) (by decide)
    have F_forgotten_b31 : Fld Z h31 b31 "com/example/tideline/tideline/session/FetcherSession$Request" "forgotten" "Lcom/example/tideline/tideline/session/FetchSession$Partitions;" .null := D31 (Or.inr (hw _ (List.mem_of_getElem? (i := 78) rfl))) (ty := (.object "com/example/tideline/tideline/session/FetchSession$Partitions")) (by decide)
    obtain ⟨T33, X33, e33, st33⟩ := getF X31 hx hZ hown (host := "") (Or.inl (hw _ (List.mem_of_getElem? (i := 60) rfl))) Via.refl e31 F_a1_id_31 (g := (mkF m 24 #[.val (.ref a1)] [(.ref a1), (.ref b31), (.ref b31), (.ref a1)])) rfl rfl (hb hby d7_24)
    obtain ⟨T34, X34, e34, st34⟩ := getF X33 hx hZ hown (host := "") (Or.inl (hw _ (List.mem_of_getElem? (i := 9) rfl))) Via.refl e33 F_a1_epoch_31 (g := (mkF m 28 #[.val (.ref a1)] [(.ref a1), (.int p1), (.ref b31), (.ref b31), (.ref a1)])) rfl rfl (hb hby d7_28)
    obtain ⟨T35, X35, e35, st35⟩ := getF X34 hx hZ hown (host := "") (Or.inl (hw _ (List.mem_of_getElem? (i := 48) rfl))) Via.refl e34 F_a1_listing_31 (g := (mkF m 32 #[.val (.ref a1)] [(.ref a1), (.int p2), (.int p1), (.ref b31), (.ref b31), (.ref a1)])) rfl rfl (hb hby d7_32)
    obtain ⟨T36, X36, e36, st36⟩ := getF X35 hx hZ hown (host := "") (Or.inl (hw _ (List.mem_of_getElem? (i := 50) rfl))) Via.refl e35 F_a1_forgetting_31 (g := (mkF m 36 #[.val (.ref a1)] [(.ref a1), (.ref x1), (.int p2), (.int p1), (.ref b31), (.ref b31), (.ref a1)])) rfl rfl (hb hby d7_36)
    obtain ⟨_, _, ⟨T37, L37, k37, n37⟩, -, X37, ⟨Lc37, hQ37, l37, y37, z37⟩, st37⟩ := X36.specialBack hx (y := (⟨"com/example/tideline/tideline/session/FetcherSession$Request", "<init>", "(IILcom/example/tideline/tideline/session/FetchSession$Partitions;Lcom/example/tideline/tideline/session/FetchSession$Partitions;)V"⟩ : MethodName)) rfl hown (mvT hZ (hw _ (List.mem_of_getElem? (i := 62) rfl))) (mvT hZ (hw _ (List.mem_of_getElem? (i := 63) rfl))) (mvT hZ (hw _ (List.mem_of_getElem? (i := 64) rfl))) (by decide) (backOf (W := 2) (rm8 l Z a0 hw [] b31 p1 p2 x1 x2 h31 n0 Zs32 F_sessionId_b31 F_epoch_b31 F_listed_b31 F_forgotten_b31 A31 g_b31) hZ (hw _ (List.mem_of_getElem? (i := 64) rfl)) (hw _ (List.mem_of_getElem? (i := 59) rfl)) (by decide) (by decide)) (g := (mkF m 39 #[.val (.ref a1)] [(.ref x2), (.ref x1), (.int p2), (.int p1), (.ref b31), (.ref b31), (.ref a1)])) rfl (by rw [hml]; rfl) (Steps.refl _) (a := b31) (argsL := [(.int p1), (.int p2), (.ref x1), (.ref x2)]) (rest := [(.ref b31), (.ref a1)]) (lenOf pd_1 rfl) rfl (by show 2 * 0 + _ ≤ _; exact Nat.le_of_eq rfl) (hb hby d7_39) (fun _ _ => ⟨rfl, e36, (by decide : 1 + 0 ≤ _), (by decide : 4 + 0 ≤ _)⟩)
    dsimp only [Pt.U, Pt.locs, Pt.cells, Pt.slots] at X37 l37 y37 z37 st37 hQ37
    subst l37 y37 z37
    obtain ⟨rfl, N37q, K37q, E37q, F0_37q, F1_37q, F2_37q, F3_37q⟩ := hQ37
    have N37 := Fr.app N0 N37q
    have F_a1_epoch_37 := F_a1_epoch_31.keep K37q (ninS ne_a1_b31 nin0)
    have F_a1_held_37 := F_a1_held_31.keep K37q (ninS ne_a1_b31 nin0)
    have F_a1_listing_37 := F_a1_listing_31.keep K37q (ninS ne_a1_b31 nin0)
    have F_a1_forgetting_37 := F_a1_forgetting_31.keep K37q (ninS ne_a1_b31 nin0)
    have F_a1_id_37 := F_a1_id_31.keep K37q (ninS ne_a1_b31 nin0)
    have F_a1_pending_37 := F_a1_pending_31.keep K37q (ninS ne_a1_b31 nin0)
    have E_a1_37 := E_a1_31.keep K37q
    have E_b31_37 := A31.keep K37q
    have Zs38 := Nat.le_trans Zs32 K37q.1
    have Kk37 := Kk31.trans K37q (allS (Or.inr sz_b31) all0)
    obtain ⟨T39, h39, X39, e39, W39, st39⟩ := putF X37 hx hZ hown (host := "") (Or.inl (hw _ (List.mem_of_getElem? (i := 79) rfl))) Via.refl rfl F_a1_pending_37 E_a1_37 (Or.inl (hw _ (List.mem_of_getElem? (i := 80) rfl))) (hw _ (List.mem_of_getElem? (i := 1) rfl)) (ty := (.object "com/example/tideline/tideline/session/FetcherSession$Request")) (by decide) rfl rfl (g := (mkF m 42 #[.val (.ref a1)] [(.ref b31), (.ref a1)])) rfl rfl (hb hby d7_42)
    have N39 := Fr.snoc X39 N37 g1
    have Fw39 := Fld.same W39 F_a1_pending_37
    have F_a1_epoch_39 := F_a1_epoch_37.other W39 (Or.inr (slot_ne (Or.inl (hw _ (List.mem_of_getElem? (i := 10) rfl))) (Or.inl (hw _ (List.mem_of_getElem? (i := 80) rfl))) (by decide) (t := .int) (t' := (.object "com/example/tideline/tideline/session/FetcherSession$Request")) (by decide) (by decide)))
    have F_a1_held_39 := F_a1_held_37.other W39 (Or.inr (slot_ne (Or.inl (hw _ (List.mem_of_getElem? (i := 47) rfl))) (Or.inl (hw _ (List.mem_of_getElem? (i := 80) rfl))) (by decide) (t := (.object "com/example/tideline/tideline/session/FetchSession$Partitions")) (t' := (.object "com/example/tideline/tideline/session/FetcherSession$Request")) (by decide) (by decide)))
    have F_a1_listing_39 := F_a1_listing_37.other W39 (Or.inr (slot_ne (Or.inl (hw _ (List.mem_of_getElem? (i := 49) rfl))) (Or.inl (hw _ (List.mem_of_getElem? (i := 80) rfl))) (by decide) (t := (.object "com/example/tideline/tideline/session/FetchSession$Partitions")) (t' := (.object "com/example/tideline/tideline/session/FetcherSession$Request")) (by decide) (by decide)))
    have F_a1_forgetting_39 := F_a1_forgetting_37.other W39 (Or.inr (slot_ne (Or.inl (hw _ (List.mem_of_getElem? (i := 51) rfl))) (Or.inl (hw _ (List.mem_of_getElem? (i := 80) rfl))) (by decide) (t := (.object "com/example/tideline/tideline/session/FetchSession$Partitions")) (t' := (.object "com/example/tideline/tideline/session/FetcherSession$Request")) (by decide) (by decide)))
    have F_a1_id_39 := F_a1_id_37.other W39 (Or.inr (slot_ne (Or.inl (hw _ (List.mem_of_getElem? (i := 61) rfl))) (Or.inl (hw _ (List.mem_of_getElem? (i := 80) rfl))) (by decide) (t := .int) (t' := (.object "com/example/tideline/tideline/session/FetcherSession$Request")) (by decide) (by decide)))
    have E_a1_39 := E_a1_37.wr W39
    have E_b31_39 := E37q.wr W39
    have F_b31_sessionId_39 := F0_37q.other W39 (Or.inl (Ne.symm ne_a1_b31))
    have F_b31_epoch_39 := F1_37q.other W39 (Or.inl (Ne.symm ne_a1_b31))
    have F_b31_listed_39 := F2_37q.other W39 (Or.inl (Ne.symm ne_a1_b31))
    have F_b31_forgotten_39 := F3_37q.other W39 (Or.inl (Ne.symm ne_a1_b31))
    have Zs40 := Nat.le_trans Zs38 (Keep.of_wr W39).1
    have Kk39 := Kk37.wr W39 (Or.inl (List.mem_of_getElem? (i := 0) rfl))
    obtain ⟨T41, h41, X41, e41, E41, A41, D41, -, st41⟩ := newO X39 hx hZ hown (hw _ (List.mem_of_getElem? (i := 11) rfl)) (hw _ (List.mem_of_getElem? (i := 12) rfl)) (hw _ (List.mem_of_getElem? (i := 13) rfl)) e39 (g := (mkF m 46 #[.val (.ref a1)] [(.ref a1)])) rfl (hb hby d7_46) (by decide) (by decide)
    obtain ⟨b41, g41⟩ : ∃ z, z = h39.size := ⟨_, rfl⟩
    rw [← g41] at A41 D41 st41
    have ne_a1_b41 : a1 ≠ b41 := Nat.ne_of_lt (Nat.lt_of_lt_of_le F_a1_epoch_39.lt (Nat.le_of_eq g41.symm))
    have ne_b31_b41 : b31 ≠ b41 := Nat.ne_of_lt (Nat.lt_of_lt_of_le E_b31_39.lt (Nat.le_of_eq g41.symm))
    have g_b41 : n0 ≤ b41 := Nat.le_trans Zs40 (Nat.le_of_eq g41.symm)
    have sz_b41 : h0.size ≤ b41 := Nat.le_trans Kk39.1 (Nat.le_of_eq g41.symm)
    have F_a1_epoch_41 := F_a1_epoch_39.ext E41
    have F_a1_held_41 := F_a1_held_39.ext E41
    have F_a1_listing_41 := F_a1_listing_39.ext E41
    have F_a1_forgetting_41 := F_a1_forgetting_39.ext E41
    have F_a1_id_41 := F_a1_id_39.ext E41
    have F_a1_pending_41 := Fw39.ext E41
    have E_a1_41 := E_a1_39.ext E41
    have E_b31_41 := E_b31_39.ext E41
    have F_b31_sessionId_41 := F_b31_sessionId_39.ext E41
    have F_b31_epoch_41 := F_b31_epoch_39.ext E41
    have F_b31_listed_41 := F_b31_listed_39.ext E41
    have F_b31_forgotten_41 := F_b31_forgotten_39.ext E41
    have Zs42 := Nat.le_trans Zs40 E41.1
    have Kk41 := Kk39.ext E41
    have F_byTopic_b41 : Fld Z h41 b41 "com/example/tideline/tideline/session/FetchSession$Partitions" "byTopic" "Ljava/util/Map;" .null := D41 (Or.inr (hw _ (List.mem_of_getElem? (i := 45) rfl))) (ty := (.object "java/util/Map")) (by decide)
    obtain ⟨_, _, ⟨T43, L43, k43, n43⟩, -, X43, ⟨Lc43, hQ43, l43, y43, z43⟩, st43⟩ := X41.specialBack hx (y := (⟨"com/example/tideline/tideline/session/FetchSession$Partitions", "<init>", "()V"⟩ : MethodName)) rfl hown (mvT hZ (hw _ (List.mem_of_getElem? (i := 14) rfl))) (mvT hZ (hw _ (List.mem_of_getElem? (i := 15) rfl))) (mvT hZ (hw _ (List.mem_of_getElem? (i := 16) rfl))) (by decide) (backOf (W := 2) (rm3 l Z a0 hw [] b41 h41 n0 Zs42 F_byTopic_b41 A41 g_b41) hZ (hw _ (List.mem_of_getElem? (i := 16) rfl)) (hw _ (List.mem_of_getElem? (i := 13) rfl)) (by decide) (by decide)) (g := (mkF m 50 #[.val (.ref a1)] [(.ref b41), (.ref b41), (.ref a1)])) rfl (by rw [hml]; rfl) (Steps.refl _) (a := b41) (argsL := []) (rest := [(.ref b41), (.ref a1)]) (lenOf pd_0 rfl) rfl (by show 2 * 0 + _ ≤ _; exact Nat.le_of_eq rfl) (hb hby d7_50) (fun _ _ => ⟨rfl, e41, (by decide : 2 + 1 ≤ _), (by decide : 6 + 12 ≤ _)⟩)
    dsimp only [Pt.U, Pt.locs, Pt.cells, Pt.slots] at X43 l43 y43 z43 st43 hQ43
    subst l43 y43 z43
    obtain ⟨rfl, N43q, K43q, P43q⟩ := hQ43
    have N43 := Fr.app N39 N43q
    have F_a1_epoch_43 := F_a1_epoch_41.keep K43q (ninS ne_a1_b41 nin0)
    have F_a1_held_43 := F_a1_held_41.keep K43q (ninS ne_a1_b41 nin0)
    have F_a1_listing_43 := F_a1_listing_41.keep K43q (ninS ne_a1_b41 nin0)
    have F_a1_forgetting_43 := F_a1_forgetting_41.keep K43q (ninS ne_a1_b41 nin0)
    have F_a1_id_43 := F_a1_id_41.keep K43q (ninS ne_a1_b41 nin0)
    have F_a1_pending_43 := F_a1_pending_41.keep K43q (ninS ne_a1_b41 nin0)
    have E_a1_43 := E_a1_41.keep K43q
    have E_b31_43 := E_b31_41.keep K43q
    have F_b31_sessionId_43 := F_b31_sessionId_41.keep K43q (ninS ne_b31_b41 nin0)
    have F_b31_epoch_43 := F_b31_epoch_41.keep K43q (ninS ne_b31_b41 nin0)
    have F_b31_listed_43 := F_b31_listed_41.keep K43q (ninS ne_b31_b41 nin0)
    have F_b31_forgotten_43 := F_b31_forgotten_41.keep K43q (ninS ne_b31_b41 nin0)
    have E_b41_43 := A41.keep K43q
    have Zs44 := Nat.le_trans Zs42 K43q.1
    have Kk43 := Kk41.trans K43q (allS (Or.inr sz_b41) all0)
    obtain ⟨T45, h45, X45, e45, W45, st45⟩ := putF X43 hx hZ hown (host := "") (Or.inl (hw _ (List.mem_of_getElem? (i := 48) rfl))) Via.refl rfl F_a1_listing_43 E_a1_43 (Or.inl (hw _ (List.mem_of_getElem? (i := 49) rfl))) (hw _ (List.mem_of_getElem? (i := 1) rfl)) (ty := (.object "com/example/tideline/tideline/session/FetchSession$Partitions")) (by decide) rfl rfl (g := (mkF m 53 #[.val (.ref a1)] [(.ref b41), (.ref a1)])) rfl rfl (hb hby d7_53)
    have N45 := Fr.snoc X45 N43 g1
    have Fw45 := Fld.same W45 F_a1_listing_43
    have F_a1_epoch_45 := F_a1_epoch_43.other W45 (Or.inr (slot_ne (Or.inl (hw _ (List.mem_of_getElem? (i := 10) rfl))) (Or.inl (hw _ (List.mem_of_getElem? (i := 49) rfl))) (by decide) (t := .int) (t' := (.object "com/example/tideline/tideline/session/FetchSession$Partitions")) (by decide) (by decide)))
    have F_a1_held_45 := F_a1_held_43.other W45 (Or.inr (slot_ne (Or.inl (hw _ (List.mem_of_getElem? (i := 47) rfl))) (Or.inl (hw _ (List.mem_of_getElem? (i := 49) rfl))) (by decide) (t := (.object "com/example/tideline/tideline/session/FetchSession$Partitions")) (t' := (.object "com/example/tideline/tideline/session/FetchSession$Partitions")) (by decide) (by decide)))
    have F_a1_forgetting_45 := F_a1_forgetting_43.other W45 (Or.inr (slot_ne (Or.inl (hw _ (List.mem_of_getElem? (i := 51) rfl))) (Or.inl (hw _ (List.mem_of_getElem? (i := 49) rfl))) (by decide) (t := (.object "com/example/tideline/tideline/session/FetchSession$Partitions")) (t' := (.object "com/example/tideline/tideline/session/FetchSession$Partitions")) (by decide) (by decide)))
    have F_a1_id_45 := F_a1_id_43.other W45 (Or.inr (slot_ne (Or.inl (hw _ (List.mem_of_getElem? (i := 61) rfl))) (Or.inl (hw _ (List.mem_of_getElem? (i := 49) rfl))) (by decide) (t := .int) (t' := (.object "com/example/tideline/tideline/session/FetchSession$Partitions")) (by decide) (by decide)))
    have F_a1_pending_45 := F_a1_pending_43.other W45 (Or.inr (slot_ne (Or.inl (hw _ (List.mem_of_getElem? (i := 80) rfl))) (Or.inl (hw _ (List.mem_of_getElem? (i := 49) rfl))) (by decide) (t := (.object "com/example/tideline/tideline/session/FetcherSession$Request")) (t' := (.object "com/example/tideline/tideline/session/FetchSession$Partitions")) (by decide) (by decide)))
    have E_a1_45 := E_a1_43.wr W45
    have E_b31_45 := E_b31_43.wr W45
    have F_b31_sessionId_45 := F_b31_sessionId_43.other W45 (Or.inl (Ne.symm ne_a1_b31))
    have F_b31_epoch_45 := F_b31_epoch_43.other W45 (Or.inl (Ne.symm ne_a1_b31))
    have F_b31_listed_45 := F_b31_listed_43.other W45 (Or.inl (Ne.symm ne_a1_b31))
    have F_b31_forgotten_45 := F_b31_forgotten_43.other W45 (Or.inl (Ne.symm ne_a1_b31))
    have E_b41_45 := E_b41_43.wr W45
    have P_b41_45 := (P43q h39.size (Nat.le_of_eq g41.symm)).wr W45 E_a1_39.lt
    have Zs46 := Nat.le_trans Zs44 (Keep.of_wr W45).1
    have Kk45 := Kk43.wr W45 (Or.inl (List.mem_of_getElem? (i := 0) rfl))
    obtain ⟨T47, h47, X47, e47, E47, A47, D47, -, st47⟩ := newO X45 hx hZ hown (hw _ (List.mem_of_getElem? (i := 11) rfl)) (hw _ (List.mem_of_getElem? (i := 12) rfl)) (hw _ (List.mem_of_getElem? (i := 13) rfl)) e45 (g := (mkF m 57 #[.val (.ref a1)] [(.ref a1)])) rfl (hb hby d7_57) (by decide) (by decide)
    obtain ⟨b47, g47⟩ : ∃ z, z = h45.size := ⟨_, rfl⟩
    rw [← g47] at A47 D47 st47
    have ne_a1_b47 : a1 ≠ b47 := Nat.ne_of_lt (Nat.lt_of_lt_of_le F_a1_epoch_45.lt (Nat.le_of_eq g47.symm))
    have ne_b31_b47 : b31 ≠ b47 := Nat.ne_of_lt (Nat.lt_of_lt_of_le E_b31_45.lt (Nat.le_of_eq g47.symm))
    have ne_b41_b47 : b41 ≠ b47 := Nat.ne_of_lt (Nat.lt_of_lt_of_le E_b41_45.lt (Nat.le_of_eq g47.symm))
    have g_b47 : n0 ≤ b47 := Nat.le_trans Zs46 (Nat.le_of_eq g47.symm)
    have sz_b47 : h0.size ≤ b47 := Nat.le_trans Kk45.1 (Nat.le_of_eq g47.symm)
    have F_a1_epoch_47 := F_a1_epoch_45.ext E47
    have F_a1_held_47 := F_a1_held_45.ext E47
    have F_a1_listing_47 := Fw45.ext E47
    have F_a1_forgetting_47 := F_a1_forgetting_45.ext E47
    have F_a1_id_47 := F_a1_id_45.ext E47
    have F_a1_pending_47 := F_a1_pending_45.ext E47
    have E_a1_47 := E_a1_45.ext E47
    have E_b31_47 := E_b31_45.ext E47
    have F_b31_sessionId_47 := F_b31_sessionId_45.ext E47
    have F_b31_epoch_47 := F_b31_epoch_45.ext E47
    have F_b31_listed_47 := F_b31_listed_45.ext E47
    have F_b31_forgotten_47 := F_b31_forgotten_45.ext E47
    have E_b41_47 := E_b41_45.ext E47
    have P_b41_47 := P_b41_45.ext E47
    have Zs48 := Nat.le_trans Zs46 E47.1
    have Kk47 := Kk45.ext E47
    have F_byTopic_b47 : Fld Z h47 b47 "com/example/tideline/tideline/session/FetchSession$Partitions" "byTopic" "Ljava/util/Map;" .null := D47 (Or.inr (hw _ (List.mem_of_getElem? (i := 45) rfl))) (ty := (.object "java/util/Map")) (by decide)
    obtain ⟨_, _, ⟨T49, L49, k49, n49⟩, -, X49, ⟨Lc49, hQ49, l49, y49, z49⟩, st49⟩ := X47.specialBack hx (y := (⟨"com/example/tideline/tideline/session/FetchSession$Partitions", "<init>", "()V"⟩ : MethodName)) rfl hown (mvT hZ (hw _ (List.mem_of_getElem? (i := 14) rfl))) (mvT hZ (hw _ (List.mem_of_getElem? (i := 15) rfl))) (mvT hZ (hw _ (List.mem_of_getElem? (i := 16) rfl))) (by decide) (backOf (W := 2) (rm3 l Z a0 hw [] b47 h47 n0 Zs48 F_byTopic_b47 A47 g_b47) hZ (hw _ (List.mem_of_getElem? (i := 16) rfl)) (hw _ (List.mem_of_getElem? (i := 13) rfl)) (by decide) (by decide)) (g := (mkF m 61 #[.val (.ref a1)] [(.ref b47), (.ref b47), (.ref a1)])) rfl (by rw [hml]; rfl) (Steps.refl _) (a := b47) (argsL := []) (rest := [(.ref b47), (.ref a1)]) (lenOf pd_0 rfl) rfl (by show 2 * 0 + _ ≤ _; exact Nat.le_of_eq rfl) (hb hby d7_61) (fun _ _ => ⟨rfl, e47, (by decide : 4 + 1 ≤ _), (by decide : 20 + 12 ≤ _)⟩)
    dsimp only [Pt.U, Pt.locs, Pt.cells, Pt.slots] at X49 l49 y49 z49 st49 hQ49
    subst l49 y49 z49
    obtain ⟨rfl, N49q, K49q, P49q⟩ := hQ49
    have N49 := Fr.app N45 N49q
    have P_b41_49m := P_b41_45.made E47 K49q g47
    have F_a1_epoch_49 := F_a1_epoch_47.keep K49q (ninS ne_a1_b47 nin0)
    have F_a1_held_49 := F_a1_held_47.keep K49q (ninS ne_a1_b47 nin0)
    have F_a1_listing_49 := F_a1_listing_47.keep K49q (ninS ne_a1_b47 nin0)
    have F_a1_forgetting_49 := F_a1_forgetting_47.keep K49q (ninS ne_a1_b47 nin0)
    have F_a1_id_49 := F_a1_id_47.keep K49q (ninS ne_a1_b47 nin0)
    have F_a1_pending_49 := F_a1_pending_47.keep K49q (ninS ne_a1_b47 nin0)
    have E_a1_49 := E_a1_47.keep K49q
    have E_b31_49 := E_b31_47.keep K49q
    have F_b31_sessionId_49 := F_b31_sessionId_47.keep K49q (ninS ne_b31_b47 nin0)
    have F_b31_epoch_49 := F_b31_epoch_47.keep K49q (ninS ne_b31_b47 nin0)
    have F_b31_listed_49 := F_b31_listed_47.keep K49q (ninS ne_b31_b47 nin0)
    have F_b31_forgotten_49 := F_b31_forgotten_47.keep K49q (ninS ne_b31_b47 nin0)
    have E_b41_49 := E_b41_47.keep K49q
    have E_b47_49 := A47.keep K49q
    have Zs50 := Nat.le_trans Zs48 K49q.1
    have Kk49 := Kk47.trans K49q (allS (Or.inr sz_b47) all0)
    obtain ⟨T51, h51, X51, e51, W51, st51⟩ := putF X49 hx hZ hown (host := "") (Or.inl (hw _ (List.mem_of_getElem? (i := 50) rfl))) Via.refl rfl F_a1_forgetting_49 E_a1_49 (Or.inl (hw _ (List.mem_of_getElem? (i := 51) rfl))) (hw _ (List.mem_of_getElem? (i := 1) rfl)) (ty := (.object "com/example/tideline/tideline/session/FetchSession$Partitions")) (by decide) rfl rfl (g := (mkF m 64 #[.val (.ref a1)] [(.ref b47), (.ref a1)])) rfl rfl (hb hby d7_64)
    have N51 := Fr.snoc X51 N49 g1
    have Fw51 := Fld.same W51 F_a1_forgetting_49
    have F_a1_epoch_51 := F_a1_epoch_49.other W51 (Or.inr (slot_ne (Or.inl (hw _ (List.mem_of_getElem? (i := 10) rfl))) (Or.inl (hw _ (List.mem_of_getElem? (i := 51) rfl))) (by decide) (t := .int) (t' := (.object "com/example/tideline/tideline/session/FetchSession$Partitions")) (by decide) (by decide)))
    have F_a1_held_51 := F_a1_held_49.other W51 (Or.inr (slot_ne (Or.inl (hw _ (List.mem_of_getElem? (i := 47) rfl))) (Or.inl (hw _ (List.mem_of_getElem? (i := 51) rfl))) (by decide) (t := (.object "com/example/tideline/tideline/session/FetchSession$Partitions")) (t' := (.object "com/example/tideline/tideline/session/FetchSession$Partitions")) (by decide) (by decide)))
    have F_a1_listing_51 := F_a1_listing_49.other W51 (Or.inr (slot_ne (Or.inl (hw _ (List.mem_of_getElem? (i := 49) rfl))) (Or.inl (hw _ (List.mem_of_getElem? (i := 51) rfl))) (by decide) (t := (.object "com/example/tideline/tideline/session/FetchSession$Partitions")) (t' := (.object "com/example/tideline/tideline/session/FetchSession$Partitions")) (by decide) (by decide)))
    have F_a1_id_51 := F_a1_id_49.other W51 (Or.inr (slot_ne (Or.inl (hw _ (List.mem_of_getElem? (i := 61) rfl))) (Or.inl (hw _ (List.mem_of_getElem? (i := 51) rfl))) (by decide) (t := .int) (t' := (.object "com/example/tideline/tideline/session/FetchSession$Partitions")) (by decide) (by decide)))
    have F_a1_pending_51 := F_a1_pending_49.other W51 (Or.inr (slot_ne (Or.inl (hw _ (List.mem_of_getElem? (i := 80) rfl))) (Or.inl (hw _ (List.mem_of_getElem? (i := 51) rfl))) (by decide) (t := (.object "com/example/tideline/tideline/session/FetcherSession$Request")) (t' := (.object "com/example/tideline/tideline/session/FetchSession$Partitions")) (by decide) (by decide)))
    have E_a1_51 := E_a1_49.wr W51
    have E_b31_51 := E_b31_49.wr W51
    have F_b31_sessionId_51 := F_b31_sessionId_49.other W51 (Or.inl (Ne.symm ne_a1_b31))
    have F_b31_epoch_51 := F_b31_epoch_49.other W51 (Or.inl (Ne.symm ne_a1_b31))
    have F_b31_listed_51 := F_b31_listed_49.other W51 (Or.inl (Ne.symm ne_a1_b31))
    have F_b31_forgotten_51 := F_b31_forgotten_49.other W51 (Or.inl (Ne.symm ne_a1_b31))
    have E_b41_51 := E_b41_49.wr W51
    have E_b47_51 := E_b47_49.wr W51
    have P_b41_51 := P_b41_49m.wr W51 E_a1_39.lt
    have P_b47_51 := (P49q h45.size (Nat.le_of_eq g47.symm)).wr W51 E_a1_45.lt
    have Zs52 := Nat.le_trans Zs50 (Keep.of_wr W51).1
    have Kk51 := Kk49.wr W51 (Or.inl (List.mem_of_getElem? (i := 0) rfl))
    obtain ⟨T53, X53, e53, st53⟩ := getF X51 hx hZ hown (host := "") (Or.inl (hw _ (List.mem_of_getElem? (i := 79) rfl))) Via.refl e51 F_a1_pending_51 (g := (mkF m 68 #[.val (.ref a1)] [(.ref a1)])) rfl rfl (hb hby d7_68)
    obtain ⟨fs, hr, hrun, hended, hW, hsame⟩ := X53.leave (v := some (.ref b31)) (fun h => by rw [Bd.returns] at h; cases h)
    refine ⟨_, _, pre1 _ ?_, hrun, hended, _, _, rfl, ?_, ⟨_, rfl⟩, hW, hsame.mono (by decide) (by decide)⟩
    · show Steps p.tables e below (T1.setTop (mkF m 4 #[.val (.ref a1)] [(.int p2)])) _
      refine XS.ifYes X1.here hx rfl (pc0 := 4) (pc' := 18) rfl (hb hby d7_4) rfl ((if0 _ _).trans (feq c4).2) (by decide) (by decide) ?_
      show Steps p.tables e below (T1.setTop (mkF m 18 #[.val (.ref a1)] [])) _
      refine XS.aloadN X1.here hx rfl (hb hby d7_18) rfl rfl ?_
      show Steps p.tables e below (T1.setTop (mkF m 19 #[.val (.ref a1)] [(.ref a1)])) _
      refine st31 _ ?_
      show Steps p.tables e below (T31.setTop (mkF m 22 #[.val (.ref a1)] [(.ref b31), (.ref a1)])) _
      refine XS.dup X31.here hx rfl (hb hby d7_22) rfl rfl ?_
      show Steps p.tables e below (T31.setTop (mkF m 23 #[.val (.ref a1)] [(.ref b31), (.ref b31), (.ref a1)])) _
      refine XS.aloadN X31.here hx rfl (hb hby d7_23) rfl rfl ?_
      show Steps p.tables e below (T31.setTop (mkF m 24 #[.val (.ref a1)] [(.ref a1), (.ref b31), (.ref b31), (.ref a1)])) _
      refine st33 _ ?_
      show Steps p.tables e below (T33.setTop (mkF m 27 #[.val (.ref a1)] [(.int p1), (.ref b31), (.ref b31), (.ref a1)])) _
      refine XS.aloadN X33.here hx rfl (hb hby d7_27) rfl rfl ?_
      show Steps p.tables e below (T33.setTop (mkF m 28 #[.val (.ref a1)] [(.ref a1), (.int p1), (.ref b31), (.ref b31), (.ref a1)])) _
      refine st34 _ ?_
      show Steps p.tables e below (T34.setTop (mkF m 31 #[.val (.ref a1)] [(.int p2), (.int p1), (.ref b31), (.ref b31), (.ref a1)])) _
      refine XS.aloadN X34.here hx rfl (hb hby d7_31) rfl rfl ?_
      show Steps p.tables e below (T34.setTop (mkF m 32 #[.val (.ref a1)] [(.ref a1), (.int p2), (.int p1), (.ref b31), (.ref b31), (.ref a1)])) _
      refine st35 _ ?_
      show Steps p.tables e below (T35.setTop (mkF m 35 #[.val (.ref a1)] [(.ref x1), (.int p2), (.int p1), (.ref b31), (.ref b31), (.ref a1)])) _
      refine XS.aloadN X35.here hx rfl (hb hby d7_35) rfl rfl ?_
      show Steps p.tables e below (T35.setTop (mkF m 36 #[.val (.ref a1)] [(.ref a1), (.ref x1), (.int p2), (.int p1), (.ref b31), (.ref b31), (.ref a1)])) _
      refine st36 _ ?_
      show Steps p.tables e below (T36.setTop (mkF m 39 #[.val (.ref a1)] [(.ref x2), (.ref x1), (.int p2), (.int p1), (.ref b31), (.ref b31), (.ref a1)])) _
      refine st37.trans ?_
      show Steps p.tables e below (T37.setTop (mkF m 42 #[.val (.ref a1)] [(.ref b31), (.ref a1)])) _
      refine st39 _ ?_
      show Steps p.tables e below (T39.setTop (mkF m 45 #[.val (.ref a1)] [])) _
      refine XS.aloadN X39.here hx rfl (hb hby d7_45) rfl rfl ?_
      show Steps p.tables e below (T39.setTop (mkF m 46 #[.val (.ref a1)] [(.ref a1)])) _
      refine st41 _ ?_
      show Steps p.tables e below (T41.setTop (mkF m 49 #[.val (.ref a1)] [(.ref b41), (.ref a1)])) _
      refine XS.dup X41.here hx rfl (hb hby d7_49) rfl rfl ?_
      show Steps p.tables e below (T41.setTop (mkF m 50 #[.val (.ref a1)] [(.ref b41), (.ref b41), (.ref a1)])) _
      refine st43.trans ?_
      show Steps p.tables e below (T43.setTop (mkF m 53 #[.val (.ref a1)] [(.ref b41), (.ref a1)])) _
      refine st45 _ ?_
      show Steps p.tables e below (T45.setTop (mkF m 56 #[.val (.ref a1)] [])) _
      refine XS.aloadN X45.here hx rfl (hb hby d7_56) rfl rfl ?_
      show Steps p.tables e below (T45.setTop (mkF m 57 #[.val (.ref a1)] [(.ref a1)])) _
      refine st47 _ ?_
      show Steps p.tables e below (T47.setTop (mkF m 60 #[.val (.ref a1)] [(.ref b47), (.ref a1)])) _
      refine XS.dup X47.here hx rfl (hb hby d7_60) rfl rfl ?_
      show Steps p.tables e below (T47.setTop (mkF m 61 #[.val (.ref a1)] [(.ref b47), (.ref b47), (.ref a1)])) _
      refine st49.trans ?_
      show Steps p.tables e below (T49.setTop (mkF m 64 #[.val (.ref a1)] [(.ref b47), (.ref a1)])) _
      refine st51 _ ?_
      show Steps p.tables e below (T51.setTop (mkF m 67 #[.val (.ref a1)] [])) _
      refine XS.aloadN X51.here hx rfl (hb hby d7_67) rfl rfl ?_
      show Steps p.tables e below (T51.setTop (mkF m 68 #[.val (.ref a1)] [(.ref a1)])) _
      refine st53 _ ?_
      show Steps p.tables e below (T53.setTop (mkF m 71 #[.val (.ref a1)] [(.ref b31)])) _
      exact retOut X53 hx Bd.returns rfl (Or.inr (Or.inr (Or.inr (Or.inr ⟨rfl, rfl, rfl⟩)))) (hb hby d7_71) hr
    · show Q7 Z a1 p1 p2 x1 x2 hv pv h0 n0 _ T53.heap _
      rw [e53]
      exact ⟨b31, b41, b47, _, rfl, N51, Kk51, E_a1_51, F_a1_id_51, F_a1_epoch_51, F_a1_held_51, F_a1_pending_51, F_a1_listing_51, Fw51, (P_b41_51.mono Kk39.1), (P_b47_51.mono Kk45.1), E_b31_51, sz_b31, F_b31_sessionId_51, F_b31_epoch_51, F_b31_listed_51, F_b31_forgotten_51, fun _ => rfl⟩
def Q12 (Z : State) (a1 : Addr) (p1 : Int32) (h0 : Heap) (n0 : Nat) (v : Option Value) (h : Heap) (L : List Loc) : Prop := v = some (.int p1) ∧ Fr n0 L ∧ h = h0
set_option maxRecDepth 65536 in
set_option maxHeartbeats 40000000 in
theorem rm12 (l : Launch) (Z : State) (a0 : Array Value) (hw : ∀ d ∈ tables_1, d.before a0 Z = true) (ws : List Jvm.Cond) (a1 : Addr) (p1 : Int32) (h0 : Heap) (n0 : Nat) (Z0 : n0 ≤ h0.size) (F1 : Fld Z h0 a1 "com/example/tideline/tideline/session/FetcherSession$Request" "sessionId" "I" (.int p1)) :
    MetFree l (⟨"com/example/tideline/tideline/session/FetcherSession$Request", "sessionId", "()I"⟩ : MethodName) (head1 (Jvm.Cond.code (⟨"com/example/tideline/tideline/session/FetcherSession$Request", "sessionId", "()I"⟩ : MethodName) prog_254_method_5_code 1 (some .int) :: ws) ({ frames := 0, cells := 0, slots := 0, locals := 0 } : Room)) (fun a U => a = #[(.ref a1)] ∧ Z.Warmed39 U.vm ∧ U.heap = h0) (fun _ _ _ _ _ => True) (fun _ U o U' => ∃ v L, o = .returned v ∧ Q12 Z a1 p1 h0 n0 v U'.heap L ∧ FrameEnd U o U' L ({ frames := 0, cells := 0, slots := 0, locals := 0 } : Room).cells ({ frames := 0, cells := 0, slots := 0, locals := 0 } : Room).slots) := by
  refine MetFree.of_bodySF (plainFor_of_name pn_12) hisR ?_
  intro p e s m args below meth c s₁ Bd hml0 hP hK
  obtain ⟨rfl, hZ, hh⟩ := hP
  have hx := Bd.exec
  have hby := Bd.bytes
  have hml : c.maxLocals = 1 := hml0
  have hown : s.vm.findClass "com/example/tideline/tideline/session/FetcherSession$Request" = some m.cls := findClass_of_methodNamed Bd.named
  have hnm := (name_of_methodNamed Bd.named Bd.method).1
  have X0 : Stand p l e ({ frames := 0, cells := 0, slots := 0, locals := 0 } : Room) s m #[(.ref a1)] below meth c s₁ [] 0 0 := Stand.of_body Bd
  have e0 : s₁.heap = h0 := by rw [← hh, Bd.state]; rfl
  have N0 := Fr.nil n0
  have pre0 : ∀ t, Steps p.tables e below (s₁.setTop (mkF m 0 #[.val (.ref a1)] [])) t → Steps p.tables e below (s₁.setTop (entryFrame m #[(.ref a1)] 1)) t := fun t k => castTop (ef_12 m a1) k
  obtain ⟨T1, X1, e1, st1⟩ := getF X0 hx hZ hown (host := "") (Or.inl (hw _ (List.mem_of_getElem? (i := 71) rfl))) Via.refl e0 F1 (g := (mkF m 1 #[.val (.ref a1)] [(.ref a1)])) rfl rfl (hb hby d12_1)
  obtain ⟨fs, hr, hrun, hended, hW, hsame⟩ := X1.leave (v := some (.int p1)) (fun h => by rw [Bd.returns] at h; cases h)
  refine ⟨_, _, pre0 _ ?_, hrun, hended, _, _, rfl, ?_, ⟨_, rfl⟩, hW, hsame.mono (by decide) (by decide)⟩
  · show Steps p.tables e below (s₁.setTop (mkF m 0 #[.val (.ref a1)] [])) _
    refine XS.aloadN X0.here hx rfl (hb hby d12_0) rfl rfl ?_
    show Steps p.tables e below (s₁.setTop (mkF m 1 #[.val (.ref a1)] [(.ref a1)])) _
    refine st1 _ ?_
    show Steps p.tables e below (T1.setTop (mkF m 4 #[.val (.ref a1)] [(.int p1)])) _
    exact retI X1 hx Bd.returns (hb hby d12_4) hr
  · show Q12 Z a1 p1 h0 n0 _ T1.heap _
    rw [e1]
    exact ⟨rfl, N0, rfl⟩
def Q13 (Z : State) (a1 : Addr) (p1 : Int32) (h0 : Heap) (n0 : Nat) (v : Option Value) (h : Heap) (L : List Loc) : Prop := v = some (.int p1) ∧ Fr n0 L ∧ h = h0
set_option maxRecDepth 65536 in
set_option maxHeartbeats 40000000 in
theorem rm13 (l : Launch) (Z : State) (a0 : Array Value) (hw : ∀ d ∈ tables_1, d.before a0 Z = true) (ws : List Jvm.Cond) (a1 : Addr) (p1 : Int32) (h0 : Heap) (n0 : Nat) (Z0 : n0 ≤ h0.size) (F1 : Fld Z h0 a1 "com/example/tideline/tideline/session/FetcherSession$Request" "epoch" "I" (.int p1)) :
    MetFree l (⟨"com/example/tideline/tideline/session/FetcherSession$Request", "epoch", "()I"⟩ : MethodName) (head1 (Jvm.Cond.code (⟨"com/example/tideline/tideline/session/FetcherSession$Request", "epoch", "()I"⟩ : MethodName) prog_254_method_6_code 1 (some .int) :: ws) ({ frames := 0, cells := 0, slots := 0, locals := 0 } : Room)) (fun a U => a = #[(.ref a1)] ∧ Z.Warmed39 U.vm ∧ U.heap = h0) (fun _ _ _ _ _ => True) (fun _ U o U' => ∃ v L, o = .returned v ∧ Q13 Z a1 p1 h0 n0 v U'.heap L ∧ FrameEnd U o U' L ({ frames := 0, cells := 0, slots := 0, locals := 0 } : Room).cells ({ frames := 0, cells := 0, slots := 0, locals := 0 } : Room).slots) := by
  refine MetFree.of_bodySF (plainFor_of_name pn_13) hisR ?_
  intro p e s m args below meth c s₁ Bd hml0 hP hK
  obtain ⟨rfl, hZ, hh⟩ := hP
  have hx := Bd.exec
  have hby := Bd.bytes
  have hml : c.maxLocals = 1 := hml0
  have hown : s.vm.findClass "com/example/tideline/tideline/session/FetcherSession$Request" = some m.cls := findClass_of_methodNamed Bd.named
  have hnm := (name_of_methodNamed Bd.named Bd.method).1
  have X0 : Stand p l e ({ frames := 0, cells := 0, slots := 0, locals := 0 } : Room) s m #[(.ref a1)] below meth c s₁ [] 0 0 := Stand.of_body Bd
  have e0 : s₁.heap = h0 := by rw [← hh, Bd.state]; rfl
  have N0 := Fr.nil n0
  have pre0 : ∀ t, Steps p.tables e below (s₁.setTop (mkF m 0 #[.val (.ref a1)] [])) t → Steps p.tables e below (s₁.setTop (entryFrame m #[(.ref a1)] 1)) t := fun t k => castTop (ef_13 m a1) k
  obtain ⟨T1, X1, e1, st1⟩ := getF X0 hx hZ hown (host := "") (Or.inl (hw _ (List.mem_of_getElem? (i := 73) rfl))) Via.refl e0 F1 (g := (mkF m 1 #[.val (.ref a1)] [(.ref a1)])) rfl rfl (hb hby d13_1)
  obtain ⟨fs, hr, hrun, hended, hW, hsame⟩ := X1.leave (v := some (.int p1)) (fun h => by rw [Bd.returns] at h; cases h)
  refine ⟨_, _, pre0 _ ?_, hrun, hended, _, _, rfl, ?_, ⟨_, rfl⟩, hW, hsame.mono (by decide) (by decide)⟩
  · show Steps p.tables e below (s₁.setTop (mkF m 0 #[.val (.ref a1)] [])) _
    refine XS.aloadN X0.here hx rfl (hb hby d13_0) rfl rfl ?_
    show Steps p.tables e below (s₁.setTop (mkF m 1 #[.val (.ref a1)] [(.ref a1)])) _
    refine st1 _ ?_
    show Steps p.tables e below (T1.setTop (mkF m 4 #[.val (.ref a1)] [(.int p1)])) _
    exact retI X1 hx Bd.returns (hb hby d13_4) hr
  · show Q13 Z a1 p1 h0 n0 _ T1.heap _
    rw [e1]
    exact ⟨rfl, N0, rfl⟩
def Q15 (Z : State) (a1 : Addr) (p1 : Addr) (h0 : Heap) (n0 : Nat) (v : Option Value) (h : Heap) (L : List Loc) : Prop := v = some (.ref p1) ∧ Fr n0 L ∧ h = h0
set_option maxRecDepth 65536 in
set_option maxHeartbeats 40000000 in
theorem rm15 (l : Launch) (Z : State) (a0 : Array Value) (hw : ∀ d ∈ tables_1, d.before a0 Z = true) (ws : List Jvm.Cond) (a1 : Addr) (p1 : Addr) (h0 : Heap) (n0 : Nat) (Z0 : n0 ≤ h0.size) (F1 : Fld Z h0 a1 "com/example/tideline/tideline/session/FetcherSession$Request" "listed" "Lcom/example/tideline/tideline/session/FetchSession$Partitions;" (.ref p1)) :
    MetFree l (⟨"com/example/tideline/tideline/session/FetcherSession$Request", "listed", "()Lcom/example/tideline/tideline/session/FetchSession$Partitions;"⟩ : MethodName) (head1 (Jvm.Cond.code (⟨"com/example/tideline/tideline/session/FetcherSession$Request", "listed", "()Lcom/example/tideline/tideline/session/FetchSession$Partitions;"⟩ : MethodName) prog_254_method_7_code 1 (some (.object "com/example/tideline/tideline/session/FetchSession$Partitions")) :: ws) ({ frames := 0, cells := 0, slots := 0, locals := 0 } : Room)) (fun a U => a = #[(.ref a1)] ∧ Z.Warmed39 U.vm ∧ U.heap = h0) (fun _ _ _ _ _ => True) (fun _ U o U' => ∃ v L, o = .returned v ∧ Q15 Z a1 p1 h0 n0 v U'.heap L ∧ FrameEnd U o U' L ({ frames := 0, cells := 0, slots := 0, locals := 0 } : Room).cells ({ frames := 0, cells := 0, slots := 0, locals := 0 } : Room).slots) := by
  refine MetFree.of_bodySF (plainFor_of_name pn_15) hisR ?_
  intro p e s m args below meth c s₁ Bd hml0 hP hK
  obtain ⟨rfl, hZ, hh⟩ := hP
  have hx := Bd.exec
  have hby := Bd.bytes
  have hml : c.maxLocals = 1 := hml0
  have hown : s.vm.findClass "com/example/tideline/tideline/session/FetcherSession$Request" = some m.cls := findClass_of_methodNamed Bd.named
  have hnm := (name_of_methodNamed Bd.named Bd.method).1
  have X0 : Stand p l e ({ frames := 0, cells := 0, slots := 0, locals := 0 } : Room) s m #[(.ref a1)] below meth c s₁ [] 0 0 := Stand.of_body Bd
  have e0 : s₁.heap = h0 := by rw [← hh, Bd.state]; rfl
  have N0 := Fr.nil n0
  have pre0 : ∀ t, Steps p.tables e below (s₁.setTop (mkF m 0 #[.val (.ref a1)] [])) t → Steps p.tables e below (s₁.setTop (entryFrame m #[(.ref a1)] 1)) t := fun t k => castTop (ef_15 m a1) k
  obtain ⟨T1, X1, e1, st1⟩ := getF X0 hx hZ hown (host := "") (Or.inl (hw _ (List.mem_of_getElem? (i := 75) rfl))) Via.refl e0 F1 (g := (mkF m 1 #[.val (.ref a1)] [(.ref a1)])) rfl rfl (hb hby d15_1)
  obtain ⟨fs, hr, hrun, hended, hW, hsame⟩ := X1.leave (v := some (.ref p1)) (fun h => by rw [Bd.returns] at h; cases h)
  refine ⟨_, _, pre0 _ ?_, hrun, hended, _, _, rfl, ?_, ⟨_, rfl⟩, hW, hsame.mono (by decide) (by decide)⟩
  · show Steps p.tables e below (s₁.setTop (mkF m 0 #[.val (.ref a1)] [])) _
    refine XS.aloadN X0.here hx rfl (hb hby d15_0) rfl rfl ?_
    show Steps p.tables e below (s₁.setTop (mkF m 1 #[.val (.ref a1)] [(.ref a1)])) _
    refine st1 _ ?_
    show Steps p.tables e below (T1.setTop (mkF m 4 #[.val (.ref a1)] [(.ref p1)])) _
    exact retOut X1 hx Bd.returns rfl (Or.inr (Or.inr (Or.inr (Or.inr ⟨rfl, rfl, rfl⟩)))) (hb hby d15_4) hr
  · show Q15 Z a1 p1 h0 n0 _ T1.heap _
    rw [e1]
    exact ⟨rfl, N0, rfl⟩
def Q20 (Z : State) (a1 : Addr) (p1 : Addr) (h0 : Heap) (n0 : Nat) (v : Option Value) (h : Heap) (L : List Loc) : Prop := v = some (.ref p1) ∧ Fr n0 L ∧ h = h0
set_option maxRecDepth 65536 in
set_option maxHeartbeats 40000000 in
theorem rm20 (l : Launch) (Z : State) (a0 : Array Value) (hw : ∀ d ∈ tables_1, d.before a0 Z = true) (ws : List Jvm.Cond) (a1 : Addr) (p1 : Addr) (h0 : Heap) (n0 : Nat) (Z0 : n0 ≤ h0.size) (F1 : Fld Z h0 a1 "com/example/tideline/tideline/session/FetcherSession$Request" "forgotten" "Lcom/example/tideline/tideline/session/FetchSession$Partitions;" (.ref p1)) :
    MetFree l (⟨"com/example/tideline/tideline/session/FetcherSession$Request", "forgotten", "()Lcom/example/tideline/tideline/session/FetchSession$Partitions;"⟩ : MethodName) (head1 (Jvm.Cond.code (⟨"com/example/tideline/tideline/session/FetcherSession$Request", "forgotten", "()Lcom/example/tideline/tideline/session/FetchSession$Partitions;"⟩ : MethodName) prog_254_method_8_code 1 (some (.object "com/example/tideline/tideline/session/FetchSession$Partitions")) :: ws) ({ frames := 0, cells := 0, slots := 0, locals := 0 } : Room)) (fun a U => a = #[(.ref a1)] ∧ Z.Warmed39 U.vm ∧ U.heap = h0) (fun _ _ _ _ _ => True) (fun _ U o U' => ∃ v L, o = .returned v ∧ Q20 Z a1 p1 h0 n0 v U'.heap L ∧ FrameEnd U o U' L ({ frames := 0, cells := 0, slots := 0, locals := 0 } : Room).cells ({ frames := 0, cells := 0, slots := 0, locals := 0 } : Room).slots) := by
  refine MetFree.of_bodySF (plainFor_of_name pn_20) hisR ?_
  intro p e s m args below meth c s₁ Bd hml0 hP hK
  obtain ⟨rfl, hZ, hh⟩ := hP
  have hx := Bd.exec
  have hby := Bd.bytes
  have hml : c.maxLocals = 1 := hml0
  have hown : s.vm.findClass "com/example/tideline/tideline/session/FetcherSession$Request" = some m.cls := findClass_of_methodNamed Bd.named
  have hnm := (name_of_methodNamed Bd.named Bd.method).1
  have X0 : Stand p l e ({ frames := 0, cells := 0, slots := 0, locals := 0 } : Room) s m #[(.ref a1)] below meth c s₁ [] 0 0 := Stand.of_body Bd
  have e0 : s₁.heap = h0 := by rw [← hh, Bd.state]; rfl
  have N0 := Fr.nil n0
  have pre0 : ∀ t, Steps p.tables e below (s₁.setTop (mkF m 0 #[.val (.ref a1)] [])) t → Steps p.tables e below (s₁.setTop (entryFrame m #[(.ref a1)] 1)) t := fun t k => castTop (ef_20 m a1) k
  obtain ⟨T1, X1, e1, st1⟩ := getF X0 hx hZ hown (host := "") (Or.inl (hw _ (List.mem_of_getElem? (i := 77) rfl))) Via.refl e0 F1 (g := (mkF m 1 #[.val (.ref a1)] [(.ref a1)])) rfl rfl (hb hby d20_1)
  obtain ⟨fs, hr, hrun, hended, hW, hsame⟩ := X1.leave (v := some (.ref p1)) (fun h => by rw [Bd.returns] at h; cases h)
  refine ⟨_, _, pre0 _ ?_, hrun, hended, _, _, rfl, ?_, ⟨_, rfl⟩, hW, hsame.mono (by decide) (by decide)⟩
  · show Steps p.tables e below (s₁.setTop (mkF m 0 #[.val (.ref a1)] [])) _
    refine XS.aloadN X0.here hx rfl (hb hby d20_0) rfl rfl ?_
    show Steps p.tables e below (s₁.setTop (mkF m 1 #[.val (.ref a1)] [(.ref a1)])) _
    refine st1 _ ?_
    show Steps p.tables e below (T1.setTop (mkF m 4 #[.val (.ref a1)] [(.ref p1)])) _
    exact retOut X1 hx Bd.returns rfl (Or.inr (Or.inr (Or.inr (Or.inr ⟨rfl, rfl, rfl⟩)))) (hb hby d20_4) hr
  · show Q20 Z a1 p1 h0 n0 _ T1.heap _
    rw [e1]
    exact ⟨rfl, N0, rfl⟩
def Q11z (Z : State) (a1 : Addr) (p1 : Int32) (h0 : Heap) (n0 : Nat) (v : Option Value) (h : Heap) (L : List Loc) : Prop := v = some (.int 0) ∧ Fr n0 L ∧ h = h0
set_option maxRecDepth 65536 in
set_option maxHeartbeats 40000000 in
theorem rm11z (l : Launch) (Z : State) (a0 : Array Value) (hw : ∀ d ∈ tables_1, d.before a0 Z = true) (ws : List Jvm.Cond) (a1 : Addr) (p1 : Int32) (h0 : Heap) (n0 : Nat) (Z0 : n0 ≤ h0.size) (F1 : Fld Z h0 a1 "com/example/tideline/tideline/session/FetcherSession" "epoch" "I" (.int p1)) (h1 : p1 = 0) :
    MetFree l (⟨"com/example/tideline/tideline/session/FetcherSession", "incremental", "()Z"⟩ : MethodName) (head1 (Jvm.Cond.code (⟨"com/example/tideline/tideline/session/FetcherSession", "incremental", "()Z"⟩ : MethodName) prog_253_method_7_code 1 (some .boolean) :: ws) ({ frames := 0, cells := 0, slots := 0, locals := 0 } : Room)) (fun a U => a = #[(.ref a1)] ∧ Z.Warmed39 U.vm ∧ U.heap = h0) (fun _ _ _ _ _ => True) (fun _ U o U' => ∃ v L, o = .returned v ∧ Q11z Z a1 p1 h0 n0 v U'.heap L ∧ FrameEnd U o U' L ({ frames := 0, cells := 0, slots := 0, locals := 0 } : Room).cells ({ frames := 0, cells := 0, slots := 0, locals := 0 } : Room).slots) := by
  refine MetFree.of_bodySF (plainFor_of_name pn_11) hisR ?_
  intro p e s m args below meth c s₁ Bd hml0 hP hK
  obtain ⟨rfl, hZ, hh⟩ := hP
  have hx := Bd.exec
  have hby := Bd.bytes
  have hml : c.maxLocals = 1 := hml0
  have hown : s.vm.findClass "com/example/tideline/tideline/session/FetcherSession" = some m.cls := findClass_of_methodNamed Bd.named
  have hnm := (name_of_methodNamed Bd.named Bd.method).1
  have X0 : Stand p l e ({ frames := 0, cells := 0, slots := 0, locals := 0 } : Room) s m #[(.ref a1)] below meth c s₁ [] 0 0 := Stand.of_body Bd
  have e0 : s₁.heap = h0 := by rw [← hh, Bd.state]; rfl
  have N0 := Fr.nil n0
  have pre0 : ∀ t, Steps p.tables e below (s₁.setTop (mkF m 0 #[.val (.ref a1)] [])) t → Steps p.tables e below (s₁.setTop (entryFrame m #[(.ref a1)] 1)) t := fun t k => castTop (ef_11 m a1) k
  obtain ⟨T1, X1, e1, st1⟩ := getF X0 hx hZ hown (host := "") (Or.inl (hw _ (List.mem_of_getElem? (i := 9) rfl))) Via.refl e0 F1 (g := (mkF m 1 #[.val (.ref a1)] [(.ref a1)])) rfl rfl (hb hby d11_1)
  obtain ⟨fs, hr, hrun, hended, hW, hsame⟩ := X1.leave (v := some (.int (0 : Int32))) (fun h => by rw [Bd.returns] at h; cases h)
  refine ⟨_, _, pre0 _ ?_, hrun, hended, _, _, rfl, ?_, ⟨_, rfl⟩, hW, hsame.mono (by decide) (by decide)⟩
  · show Steps p.tables e below (s₁.setTop (mkF m 0 #[.val (.ref a1)] [])) _
    refine XS.aloadN X0.here hx rfl (hb hby d11_0) rfl rfl ?_
    show Steps p.tables e below (s₁.setTop (mkF m 1 #[.val (.ref a1)] [(.ref a1)])) _
    refine st1 _ ?_
    show Steps p.tables e below (T1.setTop (mkF m 4 #[.val (.ref a1)] [(.int p1)])) _
    refine XS.ifYes X1.here hx rfl (pc0 := 4) (pc' := 11) rfl (hb hby d11_4) rfl ((if0 _ _).trans (teq h1).1) (by decide) (by decide) ?_
    show Steps p.tables e below (T1.setTop (mkF m 11 #[.val (.ref a1)] [])) _
    refine XS.iconst X1.here hx rfl (hb hby d11_11) ?_
    show Steps p.tables e below (T1.setTop (mkF m 12 #[.val (.ref a1)] [(.int (0 : Int32))])) _
    exact retN X1 hx (t := .boolean) Bd.returns (by simp) (hb hby d11_12) hr
  · show Q11z Z a1 p1 h0 n0 _ T1.heap _
    rw [e1]
    exact ⟨rfl, N0, rfl⟩
def Q11n (Z : State) (a1 : Addr) (p1 : Int32) (h0 : Heap) (n0 : Nat) (v : Option Value) (h : Heap) (L : List Loc) : Prop := v = some (.int 1) ∧ Fr n0 L ∧ h = h0
set_option maxRecDepth 65536 in
set_option maxHeartbeats 40000000 in
theorem rm11n (l : Launch) (Z : State) (a0 : Array Value) (hw : ∀ d ∈ tables_1, d.before a0 Z = true) (ws : List Jvm.Cond) (a1 : Addr) (p1 : Int32) (h0 : Heap) (n0 : Nat) (Z0 : n0 ≤ h0.size) (F1 : Fld Z h0 a1 "com/example/tideline/tideline/session/FetcherSession" "epoch" "I" (.int p1)) (h1 : ¬ p1 = 0) :
    MetFree l (⟨"com/example/tideline/tideline/session/FetcherSession", "incremental", "()Z"⟩ : MethodName) (head1 (Jvm.Cond.code (⟨"com/example/tideline/tideline/session/FetcherSession", "incremental", "()Z"⟩ : MethodName) prog_253_method_7_code 1 (some .boolean) :: ws) ({ frames := 0, cells := 0, slots := 0, locals := 0 } : Room)) (fun a U => a = #[(.ref a1)] ∧ Z.Warmed39 U.vm ∧ U.heap = h0) (fun _ _ _ _ _ => True) (fun _ U o U' => ∃ v L, o = .returned v ∧ Q11n Z a1 p1 h0 n0 v U'.heap L ∧ FrameEnd U o U' L ({ frames := 0, cells := 0, slots := 0, locals := 0 } : Room).cells ({ frames := 0, cells := 0, slots := 0, locals := 0 } : Room).slots) := by
  refine MetFree.of_bodySF (plainFor_of_name pn_11) hisR ?_
  intro p e s m args below meth c s₁ Bd hml0 hP hK
  obtain ⟨rfl, hZ, hh⟩ := hP
  have hx := Bd.exec
  have hby := Bd.bytes
  have hml : c.maxLocals = 1 := hml0
  have hown : s.vm.findClass "com/example/tideline/tideline/session/FetcherSession" = some m.cls := findClass_of_methodNamed Bd.named
  have hnm := (name_of_methodNamed Bd.named Bd.method).1
  have X0 : Stand p l e ({ frames := 0, cells := 0, slots := 0, locals := 0 } : Room) s m #[(.ref a1)] below meth c s₁ [] 0 0 := Stand.of_body Bd
  have e0 : s₁.heap = h0 := by rw [← hh, Bd.state]; rfl
  have N0 := Fr.nil n0
  have pre0 : ∀ t, Steps p.tables e below (s₁.setTop (mkF m 0 #[.val (.ref a1)] [])) t → Steps p.tables e below (s₁.setTop (entryFrame m #[(.ref a1)] 1)) t := fun t k => castTop (ef_11 m a1) k
  obtain ⟨T1, X1, e1, st1⟩ := getF X0 hx hZ hown (host := "") (Or.inl (hw _ (List.mem_of_getElem? (i := 9) rfl))) Via.refl e0 F1 (g := (mkF m 1 #[.val (.ref a1)] [(.ref a1)])) rfl rfl (hb hby d11_1)
  obtain ⟨fs, hr, hrun, hended, hW, hsame⟩ := X1.leave (v := some (.int (1 : Int32))) (fun h => by rw [Bd.returns] at h; cases h)
  refine ⟨_, _, pre0 _ ?_, hrun, hended, _, _, rfl, ?_, ⟨_, rfl⟩, hW, hsame.mono (by decide) (by decide)⟩
  · show Steps p.tables e below (s₁.setTop (mkF m 0 #[.val (.ref a1)] [])) _
    refine XS.aloadN X0.here hx rfl (hb hby d11_0) rfl rfl ?_
    show Steps p.tables e below (s₁.setTop (mkF m 1 #[.val (.ref a1)] [(.ref a1)])) _
    refine st1 _ ?_
    show Steps p.tables e below (T1.setTop (mkF m 4 #[.val (.ref a1)] [(.int p1)])) _
    refine XS.ifNo X1.here hx rfl (hb hby d11_4) rfl ((if0 _ _).trans (feq h1).1) ?_
    show Steps p.tables e below (T1.setTop (mkF m 7 #[.val (.ref a1)] [])) _
    refine XS.iconst X1.here hx rfl (hb hby d11_7) ?_
    show Steps p.tables e below (T1.setTop (mkF m 8 #[.val (.ref a1)] [(.int (1 : Int32))])) _
    refine XS.goto X1.here hx rfl (pc0 := 8) (pc' := 12) rfl (hb hby d11_8) (by decide) (by decide) ?_
    show Steps p.tables e below (T1.setTop (mkF m 12 #[.val (.ref a1)] [(.int (1 : Int32))])) _
    exact retN X1 hx (t := .boolean) Bd.returns (by simp) (hb hby d11_12) hr
  · show Q11n Z a1 p1 h0 n0 _ T1.heap _
    rw [e1]
    exact ⟨rfl, N0, rfl⟩
def Q16 (Z : State) (p1 : Int32) (h0 : Heap) (n0 : Nat) (v : Option Value) (h : Heap) (L : List Loc) : Prop := v = some (.int (p1 + (1 : Int32))) ∧ Fr n0 L ∧ h = h0
set_option maxRecDepth 65536 in
set_option maxHeartbeats 40000000 in
theorem rm16 (l : Launch) (Z : State) (a0 : Array Value) (hw : ∀ d ∈ tables_1, d.before a0 Z = true) (ws : List Jvm.Cond) (p1 : Int32) (h0 : Heap) (n0 : Nat) (Z0 : n0 ≤ h0.size) (h1 : ¬ p1 = (2147483647 : Int32)) :
    MetFree l (⟨"com/example/tideline/tideline/session/FetchSession", "epochAfter", "(I)I"⟩ : MethodName) (head1 (Jvm.Cond.code (⟨"com/example/tideline/tideline/session/FetchSession", "epochAfter", "(I)I"⟩ : MethodName) prog_244_method_17_code 1 (some .int) :: ws) ({ frames := 0, cells := 0, slots := 0, locals := 0 } : Room)) (fun a U => a = #[(.int p1)] ∧ Z.Warmed39 U.vm ∧ U.heap = h0) (fun _ _ _ _ _ => True) (fun _ U o U' => ∃ v L, o = .returned v ∧ Q16 Z p1 h0 n0 v U'.heap L ∧ FrameEnd U o U' L ({ frames := 0, cells := 0, slots := 0, locals := 0 } : Room).cells ({ frames := 0, cells := 0, slots := 0, locals := 0 } : Room).slots) := by
  refine MetFree.of_bodySF (plainFor_of_name pn_16) hisR ?_
  intro p e s m args below meth c s₁ Bd hml0 hP hK
  obtain ⟨rfl, hZ, hh⟩ := hP
  have hx := Bd.exec
  have hby := Bd.bytes
  have hml : c.maxLocals = 1 := hml0
  have hown : s.vm.findClass "com/example/tideline/tideline/session/FetchSession" = some m.cls := findClass_of_methodNamed Bd.named
  have hnm := (name_of_methodNamed Bd.named Bd.method).1
  have X0 : Stand p l e ({ frames := 0, cells := 0, slots := 0, locals := 0 } : Room) s m #[(.int p1)] below meth c s₁ [] 0 0 := Stand.of_body Bd
  have e0 : s₁.heap = h0 := by rw [← hh, Bd.state]; rfl
  have N0 := Fr.nil n0
  have pre0 : ∀ t, Steps p.tables e below (s₁.setTop (mkF m 0 #[.val (.int p1)] [])) t → Steps p.tables e below (s₁.setTop (entryFrame m #[(.int p1)] 1)) t := fun t k => castTop (ef_16 m p1) k
  obtain ⟨fs, hr, hrun, hended, hW, hsame⟩ := X0.leave (v := some (.int (p1 + (1 : Int32)))) (fun h => by rw [Bd.returns] at h; cases h)
  refine ⟨_, _, pre0 _ ?_, hrun, hended, _, _, rfl, ?_, ⟨_, rfl⟩, hW, hsame.mono (by decide) (by decide)⟩
  · show Steps p.tables e below (s₁.setTop (mkF m 0 #[.val (.int p1)] [])) _
    refine XS.iloadN X0.here hx rfl (hb hby d16_0) rfl ?_
    show Steps p.tables e below (s₁.setTop (mkF m 1 #[.val (.int p1)] [(.int p1)])) _
    refine X0.ldcInt hx hown (mvT hZ (hw _ (List.mem_of_getElem? (i := 115) rfl))) (g := (mkF m 1 #[.val (.int p1)] [(.int p1)])) rfl (hb hby d16_1) _ ?_
    show Steps p.tables e below (s₁.setTop (mkF m 3 #[.val (.int p1)] [(.int (2147483647 : Int32)), (.int p1)])) _
    refine XS.icmpYes X0.here hx rfl (pc0 := 3) (pc' := 10) rfl (hb hby d16_3) rfl (feq h1).2 (by decide) (by decide) ?_
    show Steps p.tables e below (s₁.setTop (mkF m 10 #[.val (.int p1)] [])) _
    refine XS.iloadN X0.here hx rfl (hb hby d16_10) rfl ?_
    show Steps p.tables e below (s₁.setTop (mkF m 11 #[.val (.int p1)] [(.int p1)])) _
    refine XS.iconst X0.here hx rfl (hb hby d16_11) ?_
    show Steps p.tables e below (s₁.setTop (mkF m 12 #[.val (.int p1)] [(.int (1 : Int32)), (.int p1)])) _
    refine XS.iadd X0.here hx rfl (hb hby d16_12) rfl ?_
    show Steps p.tables e below (s₁.setTop (mkF m 13 #[.val (.int p1)] [(.int (p1 + (1 : Int32)))])) _
    exact retI X0 hx Bd.returns (hb hby d16_13) hr
  · show Q16 Z p1 h0 n0 _ s₁.heap _
    rw [e0]
    exact ⟨rfl, N0, rfl⟩
def Q17 (Z : State) (a1 : Addr) (h0 : Heap) (n0 : Nat) (v : Option Value) (h : Heap) (L : List Loc) : Prop := v = some (.ref a1) ∧ Fr n0 L ∧ h = h0
set_option maxRecDepth 65536 in
set_option maxHeartbeats 40000000 in
theorem rm17 (l : Launch) (Z : State) (a0 : Array Value) (hw : ∀ d ∈ tables_1, d.before a0 Z = true) (ws : List Jvm.Cond) (a1 : Addr) (h0 : Heap) (n0 : Nat) (Z0 : n0 ≤ h0.size) :
    MetFree l (⟨"java/util/Objects", "requireNonNull", "(Ljava/lang/Object;)Ljava/lang/Object;"⟩ : MethodName) (head1 (Jvm.Cond.code (⟨"java/util/Objects", "requireNonNull", "(Ljava/lang/Object;)Ljava/lang/Object;"⟩ : MethodName) jdk_31_method_10_code 1 (some (.object "java/lang/Object")) :: ws) ({ frames := 0, cells := 0, slots := 0, locals := 0 } : Room)) (fun a U => a = #[(.ref a1)] ∧ Z.Warmed39 U.vm ∧ U.heap = h0) (fun _ _ _ _ _ => True) (fun _ U o U' => ∃ v L, o = .returned v ∧ Q17 Z a1 h0 n0 v U'.heap L ∧ FrameEnd U o U' L ({ frames := 0, cells := 0, slots := 0, locals := 0 } : Room).cells ({ frames := 0, cells := 0, slots := 0, locals := 0 } : Room).slots) := by
  refine MetFree.of_bodySF (plainFor_of_name pn_17) hisR ?_
  intro p e s m args below meth c s₁ Bd hml0 hP hK
  obtain ⟨rfl, hZ, hh⟩ := hP
  have hx := Bd.exec
  have hby := Bd.bytes
  have hml : c.maxLocals = 1 := hml0
  have hown : s.vm.findClass "java/util/Objects" = some m.cls := findClass_of_methodNamed Bd.named
  have hnm := (name_of_methodNamed Bd.named Bd.method).1
  have X0 : Stand p l e ({ frames := 0, cells := 0, slots := 0, locals := 0 } : Room) s m #[(.ref a1)] below meth c s₁ [] 0 0 := Stand.of_body Bd
  have e0 : s₁.heap = h0 := by rw [← hh, Bd.state]; rfl
  have N0 := Fr.nil n0
  have pre0 : ∀ t, Steps p.tables e below (s₁.setTop (mkF m 0 #[.val (.ref a1)] [])) t → Steps p.tables e below (s₁.setTop (entryFrame m #[(.ref a1)] 1)) t := fun t k => castTop (ef_17 m a1) k
  obtain ⟨fs, hr, hrun, hended, hW, hsame⟩ := X0.leave (v := some (.ref a1)) (fun h => by rw [Bd.returns] at h; cases h)
  refine ⟨_, _, pre0 _ ?_, hrun, hended, _, _, rfl, ?_, ⟨_, rfl⟩, hW, hsame.mono (by decide) (by decide)⟩
  · show Steps p.tables e below (s₁.setTop (mkF m 0 #[.val (.ref a1)] [])) _
    refine XS.aloadN X0.here hx rfl (hb hby d17_0) rfl rfl ?_
    show Steps p.tables e below (s₁.setTop (mkF m 1 #[.val (.ref a1)] [(.ref a1)])) _
    refine XS.ifnonnullYes X0.here hx rfl (pc0 := 1) (pc' := 12) rfl (hb hby d17_1) rfl (by decide) (by decide) ?_
    show Steps p.tables e below (s₁.setTop (mkF m 12 #[.val (.ref a1)] [])) _
    refine XS.aloadN X0.here hx rfl (hb hby d17_12) rfl rfl ?_
    show Steps p.tables e below (s₁.setTop (mkF m 13 #[.val (.ref a1)] [(.ref a1)])) _
    exact retOut X0 hx Bd.returns rfl (Or.inr (Or.inr (Or.inr (Or.inr ⟨rfl, rfl, rfl⟩)))) (hb hby d17_13) hr
  · show Q17 Z a1 h0 n0 _ s₁.heap _
    rw [e0]
    exact ⟨rfl, N0, rfl⟩
def Q19 (Z : State) (a1 a2 : Addr) (h0 : Heap) (n0 : Nat) (v : Option Value) (h : Heap) (L : List Loc) : Prop := v = none ∧ Fr n0 L ∧ h = h0
set_option maxRecDepth 65536 in
set_option maxHeartbeats 40000000 in
theorem rm19 (l : Launch) (Z : State) (a0 : Array Value) (hw : ∀ d ∈ tables_1, d.before a0 Z = true) (ws : List Jvm.Cond) (a1 a2 : Addr) (h0 : Heap) (n0 : Nat) (Z0 : n0 ≤ h0.size) (F1 : Fld Z h0 a1 "java/util/HashMap" "modCount" "I" (.int (0 : Int32))) (F2 : Fld Z h0 a1 "java/util/LinkedHashMap" "head" "Ljava/util/LinkedHashMap$Entry;" .null) :
    MetFree l (⟨"java/util/LinkedHashMap", "forEach", "(Ljava/util/function/BiConsumer;)V"⟩ : MethodName) (head1 (Jvm.Cond.code (⟨"java/util/LinkedHashMap", "forEach", "(Ljava/util/function/BiConsumer;)V"⟩ : MethodName) jdk_94_method_34_code 4 none :: ws) ({ frames := 0, cells := 0, slots := 0, locals := 0 } : Room)) (fun a U => a = #[(.ref a1), (.ref a2)] ∧ Z.Warmed39 U.vm ∧ U.heap = h0) (fun _ _ _ _ _ => True) (fun _ U o U' => ∃ v L, o = .returned v ∧ Q19 Z a1 a2 h0 n0 v U'.heap L ∧ FrameEnd U o U' L ({ frames := 0, cells := 0, slots := 0, locals := 0 } : Room).cells ({ frames := 0, cells := 0, slots := 0, locals := 0 } : Room).slots) := by
  refine MetFree.of_bodySF (plainFor_of_name pn_19) hisR ?_
  intro p e s m args below meth c s₁ Bd hml0 hP hK
  obtain ⟨rfl, hZ, hh⟩ := hP
  have hx := Bd.exec
  have hby := Bd.bytes
  have hml : c.maxLocals = 4 := hml0
  have hown : s.vm.findClass "java/util/LinkedHashMap" = some m.cls := findClass_of_methodNamed Bd.named
  have hnm := (name_of_methodNamed Bd.named Bd.method).1
  have X0 : Stand p l e ({ frames := 0, cells := 0, slots := 0, locals := 0 } : Room) s m #[(.ref a1), (.ref a2)] below meth c s₁ [] 0 0 := Stand.of_body Bd
  have e0 : s₁.heap = h0 := by rw [← hh, Bd.state]; rfl
  have N0 := Fr.nil n0
  have pre0 : ∀ t, Steps p.tables e below (s₁.setTop (mkF m 0 #[.val (.ref a1), .val (.ref a2), .unset, .unset] [])) t → Steps p.tables e below (s₁.setTop (entryFrame m #[(.ref a1), (.ref a2)] 4)) t := fun t k => castTop (ef_19 m a1 a2) k
  obtain ⟨T1, X1, e1, st1⟩ := getF X0 hx hZ hown (host := "") (Or.inl (hw _ (List.mem_of_getElem? (i := 140) rfl))) (Via.of (hw _ (List.mem_of_getElem? (i := 141) rfl))) e0 F1 (g := (mkF m 13 #[.val (.ref a1), .val (.ref a2), .unset, .unset] [(.ref a1)])) rfl rfl (hb hby d19_13)
  obtain ⟨T2, X2, e2, st2⟩ := getF X1 hx hZ hown (host := "") (Or.inl (hw _ (List.mem_of_getElem? (i := 143) rfl))) Via.refl e1 F2 (g := (mkF m 18 #[.val (.ref a1), .val (.ref a2), .val (.int (0 : Int32)), .unset] [(.ref a1)])) rfl rfl (hb hby d19_18)
  obtain ⟨T3, X3, e3, st3⟩ := getF X2 hx hZ hown (host := "") (Or.inl (hw _ (List.mem_of_getElem? (i := 140) rfl))) (Via.of (hw _ (List.mem_of_getElem? (i := 141) rfl))) e2 F1 (g := (mkF m 49 #[.val (.ref a1), .val (.ref a2), .val (.int (0 : Int32)), .val .null] [(.ref a1)])) rfl rfl (hb hby d19_49)
  obtain ⟨fs, hr, hrun, hended, hW, hsame⟩ := X3.leave (v := none) (fun _ => rfl)
  refine ⟨_, _, pre0 _ ?_, hrun, hended, _, _, rfl, ?_, ⟨_, rfl⟩, hW, hsame.mono (by decide) (by decide)⟩
  · show Steps p.tables e below (s₁.setTop (mkF m 0 #[.val (.ref a1), .val (.ref a2), .unset, .unset] [])) _
    refine XS.aloadN X0.here hx rfl (hb hby d19_0) rfl rfl ?_
    show Steps p.tables e below (s₁.setTop (mkF m 1 #[.val (.ref a1), .val (.ref a2), .unset, .unset] [(.ref a2)])) _
    refine XS.ifnonnullYes X0.here hx rfl (pc0 := 1) (pc' := 12) rfl (hb hby d19_1) rfl (by decide) (by decide) ?_
    show Steps p.tables e below (s₁.setTop (mkF m 12 #[.val (.ref a1), .val (.ref a2), .unset, .unset] [])) _
    refine XS.aloadN X0.here hx rfl (hb hby d19_12) rfl rfl ?_
    show Steps p.tables e below (s₁.setTop (mkF m 13 #[.val (.ref a1), .val (.ref a2), .unset, .unset] [(.ref a1)])) _
    refine st1 _ ?_
    show Steps p.tables e below (T1.setTop (mkF m 16 #[.val (.ref a1), .val (.ref a2), .unset, .unset] [(.int (0 : Int32))])) _
    refine XS.istoreN X1.here hx rfl (hb hby d19_16) rfl (l' := #[.val (.ref a1), .val (.ref a2), .val (.int (0 : Int32)), .unset]) rfl ?_
    show Steps p.tables e below (T1.setTop (mkF m 17 #[.val (.ref a1), .val (.ref a2), .val (.int (0 : Int32)), .unset] [])) _
    refine XS.aloadN X1.here hx rfl (hb hby d19_17) rfl rfl ?_
    show Steps p.tables e below (T1.setTop (mkF m 18 #[.val (.ref a1), .val (.ref a2), .val (.int (0 : Int32)), .unset] [(.ref a1)])) _
    refine st2 _ ?_
    show Steps p.tables e below (T2.setTop (mkF m 21 #[.val (.ref a1), .val (.ref a2), .val (.int (0 : Int32)), .unset] [.null])) _
    refine XS.astoreN X2.here hx rfl (hb hby d19_21) rfl rfl (l' := #[.val (.ref a1), .val (.ref a2), .val (.int (0 : Int32)), .val .null]) rfl ?_
    show Steps p.tables e below (T2.setTop (mkF m 22 #[.val (.ref a1), .val (.ref a2), .val (.int (0 : Int32)), .val .null] [])) _
    refine XS.aloadN X2.here hx rfl (hb hby d19_22) rfl rfl ?_
    show Steps p.tables e below (T2.setTop (mkF m 23 #[.val (.ref a1), .val (.ref a2), .val (.int (0 : Int32)), .val .null] [.null])) _
    refine XS.ifnullYes X2.here hx rfl (pc0 := 23) (pc' := 48) rfl (hb hby d19_23) rfl (by decide) (by decide) ?_
    show Steps p.tables e below (T2.setTop (mkF m 48 #[.val (.ref a1), .val (.ref a2), .val (.int (0 : Int32)), .val .null] [])) _
    refine XS.aloadN X2.here hx rfl (hb hby d19_48) rfl rfl ?_
    show Steps p.tables e below (T2.setTop (mkF m 49 #[.val (.ref a1), .val (.ref a2), .val (.int (0 : Int32)), .val .null] [(.ref a1)])) _
    refine st3 _ ?_
    show Steps p.tables e below (T3.setTop (mkF m 52 #[.val (.ref a1), .val (.ref a2), .val (.int (0 : Int32)), .val .null] [(.int (0 : Int32))])) _
    refine XS.iloadN X3.here hx rfl (hb hby d19_52) rfl ?_
    show Steps p.tables e below (T3.setTop (mkF m 53 #[.val (.ref a1), .val (.ref a2), .val (.int (0 : Int32)), .val .null] [(.int (0 : Int32)), (.int (0 : Int32))])) _
    refine XS.icmpYes X3.here hx rfl (pc0 := 53) (pc' := 64) rfl (hb hby d19_53) rfl (teq (rfl : (0 : Int32) = (0 : Int32))).1 (by decide) (by decide) ?_
    show Steps p.tables e below (T3.setTop (mkF m 64 #[.val (.ref a1), .val (.ref a2), .val (.int (0 : Int32)), .val .null] [])) _
    exact X3.returnOut hx Bd.returns (hb hby d19_64) hr
  · show Q19 Z a1 a2 h0 n0 _ T3.heap _
    rw [e3]
    exact ⟨rfl, N0, rfl⟩
def Q18 (Z : State) (a1 a2 : Addr) (lo : Nat) (h0 : Heap) (n0 : Nat) (v : Option Value) (h : Heap) (L : List Loc) : Prop := v = none ∧ Fr n0 L ∧ Keep h0 h []
set_option maxRecDepth 65536 in
set_option maxHeartbeats 40000000 in
theorem rm18 (l : Launch) (Z : State) (a0 : Array Value) (hw : ∀ d ∈ tables_1, d.before a0 Z = true) (ws : List Jvm.Cond) (a1 a2 : Addr) (lo : Nat) (h0 : Heap) (n0 : Nat) (Z0 : n0 ≤ h0.size) (P1 : own_part Z h0 lo a1) :
    MetFree l (⟨"com/example/tideline/tideline/session/FetchSession$Partitions", "forEach", "(Lcom/example/tideline/tideline/session/FetchSession$Partitions$Each;)V"⟩ : MethodName) (head1 (Jvm.Cond.code (⟨"com/example/tideline/tideline/session/FetchSession$Partitions", "forEach", "(Lcom/example/tideline/tideline/session/FetchSession$Partitions$Each;)V"⟩ : MethodName) prog_248_method_9_code 2 none :: ws) ({ frames := 1, cells := 1, slots := 1, locals := 3074 } : Room)) (fun a U => a = #[(.ref a1), (.ref a2)] ∧ Z.Warmed39 U.vm ∧ U.heap = h0) (fun _ _ _ _ _ => True) (fun _ U o U' => ∃ v L, o = .returned v ∧ Q18 Z a1 a2 lo h0 n0 v U'.heap L ∧ FrameEnd U o U' L ({ frames := 1, cells := 1, slots := 1, locals := 3074 } : Room).cells ({ frames := 1, cells := 1, slots := 1, locals := 3074 } : Room).slots) := by
  refine MetFree.of_bodySF (plainFor_of_name pn_18) hisR ?_
  intro p e s m args below meth c s₁ Bd hml0 hP hK
  obtain ⟨rfl, hZ, hh⟩ := hP
  have hx := Bd.exec
  have hby := Bd.bytes
  have hml : c.maxLocals = 2 := hml0
  have hown : s.vm.findClass "com/example/tideline/tideline/session/FetchSession$Partitions" = some m.cls := findClass_of_methodNamed Bd.named
  have hnm := (name_of_methodNamed Bd.named Bd.method).1
  have X0 : Stand p l e ({ frames := 1, cells := 1, slots := 1, locals := 3074 } : Room) s m #[(.ref a1), (.ref a2)] below meth c s₁ [] 0 0 := Stand.of_body Bd
  have e0 : s₁.heap = h0 := by rw [← hh, Bd.state]; rfl
  have N0 := Fr.nil n0
  have pre0 : ∀ t, Steps p.tables e below (s₁.setTop (mkF m 0 #[.val (.ref a1), .val (.ref a2)] [])) t → Steps p.tables e below (s₁.setTop (entryFrame m #[(.ref a1), (.ref a2)] 2)) t := fun t k => castTop (ef_18 m a1 a2) k
  obtain ⟨-, -, mm, -, F1, Emm, F2, F3⟩ := P1
  have KK0 := Keep.refl h0 []
  obtain ⟨T1, X1, e1, st1⟩ := getF X0 hx hZ hown (host := "") (Or.inl (hw _ (List.mem_of_getElem? (i := 44) rfl))) Via.refl e0 F1 (g := (mkF m 1 #[.val (.ref a1), .val (.ref a2)] [(.ref a1)])) rfl rfl (hb hby d18_1)
  obtain ⟨T2, h2, X2, e2, E2, st2⟩ := own_lam X1 hx hZ Bd.named (hw _ (List.mem_of_getElem? (i := 129) rfl)) (fi := 15) (by decide +kernel) (hw _ (List.mem_of_getElem? (i := 123) rfl)) e1 (g := (mkF m 5 #[.val (.ref a1), .val (.ref a2)] [(.ref a2), (.ref mm)])) rfl rfl (by rw [hml]; rfl) (hb hby d18_5) (a := a2) (rest := [(.ref mm)]) rfl ⟨rfl, rfl⟩ rfl (Nat.le_of_ble_eq_true rfl) (by decide) (by decide)
  obtain ⟨b2, g2⟩ : ∃ z, z = h0.size := ⟨_, rfl⟩
  rw [← g2] at st2
  have ne_a1_b2 : a1 ≠ b2 := Nat.ne_of_lt (Nat.lt_of_lt_of_le F1.lt (Nat.le_of_eq g2.symm))
  have ne_mm_b2 : mm ≠ b2 := Nat.ne_of_lt (Nat.lt_of_lt_of_le Emm.lt (Nat.le_of_eq g2.symm))
  have g_b2 : n0 ≤ b2 := Nat.le_trans Z0 (Nat.le_of_eq g2.symm)
  have sz_b2 : h0.size ≤ b2 := Nat.le_trans KK0.1 (Nat.le_of_eq g2.symm)
  have F_a1_byTopic_2 := F1.ext E2
  have E_mm_2 := Emm.ext E2
  have F_mm_modCount_2 := F2.ext E2
  have F_mm_head_2 := F3.ext E2
  have Zs3 := Nat.le_trans Z0 E2.1
  have Kk2 := KK0.ext E2
  obtain ⟨cq4, kq4, q4a, q4b, q4c⟩ := isOf hZ e2 E_mm_2
  obtain ⟨_, _, ⟨T4, L4, k4, n4⟩, -, X4, ⟨Lc4, hQ4, l4, y4, z4⟩, st4⟩ := X2.interfaceBack hx (xi := (⟨"java/util/Map", "forEach", "(Ljava/util/function/BiConsumer;)V"⟩ : MethodName)) (y := (⟨"java/util/LinkedHashMap", "forEach", "(Ljava/util/function/BiConsumer;)V"⟩ : MethodName)) hown (mvT hZ (hw _ (List.mem_of_getElem? (i := 131) rfl))) (mvT hZ (hw _ (List.mem_of_getElem? (i := 132) rfl))) (mvT hZ (hw _ (List.mem_of_getElem? (i := 133) rfl))) (mvT hZ (hw _ (List.mem_of_getElem? (i := 134) rfl))) (mvT hZ (hw _ (List.mem_of_getElem? (i := 135) rfl))) (mvT hZ (hw _ (List.mem_of_getElem? (i := 136) rfl))) (mvT hZ (hw _ (List.mem_of_getElem? (i := 137) rfl))) (mvT hZ (hw _ (List.mem_of_getElem? (i := 138) rfl))) (by decide) (backOf (W := 0) (rm19 l Z a0 hw [] mm b2 h2 n0 Zs3 F_mm_modCount_2 F_mm_head_2) hZ (hw _ (List.mem_of_getElem? (i := 139) rfl)) (hw _ (List.mem_of_getElem? (i := 20) rfl)) (by decide) (by decide)) q4a q4b q4c (g := (mkF m 10 #[.val (.ref a1), .val (.ref a2)] [(.ref b2), (.ref mm)])) rfl (by rw [hml]; rfl) (Steps.refl _) (argsL := [(.ref b2)]) (rest := []) (lenOf pd_2 rfl) rfl (by show 2 * 0 + _ ≤ _; exact Nat.le_of_eq rfl) (hb hby d18_10) (fun _ _ => ⟨rfl, e2, (by decide : 1 + 0 ≤ _), (by decide : 1 + 0 ≤ _)⟩)
  dsimp only [Pt.U, Pt.locs, Pt.cells, Pt.slots] at X4 l4 y4 z4 st4 hQ4
  subst l4 y4 z4
  obtain ⟨rfl, N4q, e4q⟩ := hQ4
  have N4 := Fr.app N0 N4q
  obtain ⟨fs, hr, hrun, hended, hW, hsame⟩ := X4.leave (v := none) (fun _ => rfl)
  refine ⟨_, _, pre0 _ ?_, hrun, hended, _, _, rfl, ?_, ⟨_, rfl⟩, hW, hsame.mono (by decide) (by decide)⟩
  · show Steps p.tables e below (s₁.setTop (mkF m 0 #[.val (.ref a1), .val (.ref a2)] [])) _
    refine XS.aloadN X0.here hx rfl (hb hby d18_0) rfl rfl ?_
    show Steps p.tables e below (s₁.setTop (mkF m 1 #[.val (.ref a1), .val (.ref a2)] [(.ref a1)])) _
    refine st1 _ ?_
    show Steps p.tables e below (T1.setTop (mkF m 4 #[.val (.ref a1), .val (.ref a2)] [(.ref mm)])) _
    refine XS.aloadN X1.here hx rfl (hb hby d18_4) rfl rfl ?_
    show Steps p.tables e below (T1.setTop (mkF m 5 #[.val (.ref a1), .val (.ref a2)] [(.ref a2), (.ref mm)])) _
    refine st2 _ ?_
    show Steps p.tables e below (T2.setTop (mkF m 10 #[.val (.ref a1), .val (.ref a2)] [(.ref b2), (.ref mm)])) _
    refine st4.trans ?_
    show Steps p.tables e below (T4.setTop (mkF m 15 #[.val (.ref a1), .val (.ref a2)] [])) _
    exact X4.returnOut hx Bd.returns (hb hby d18_15) hr
  · show Q18 Z a1 a2 lo h0 n0 _ T4.heap _
    rw [e4q]
    exact ⟨rfl, N4, Kk2⟩
def Q10z (Z : State) (a1 : Addr) (p3 p1 p2 : Int32) (x1 x2 : Addr) (hv pv : Value) (h0 : Heap) (n0 : Nat) (v : Option Value) (h : Heap) (L : List Loc) : Prop := v = some (.int 0) ∧ Fr n0 L ∧ Keep h0 h [a1] ∧ Exa Z h a1 "com/example/tideline/tideline/session/FetcherSession" ∧ Fld Z h a1 "com/example/tideline/tideline/session/FetcherSession" "epoch" "I" (.int p2) ∧ Fld Z h a1 "com/example/tideline/tideline/session/FetcherSession" "held" "Lcom/example/tideline/tideline/session/FetchSession$Partitions;" hv ∧ Fld Z h a1 "com/example/tideline/tideline/session/FetcherSession" "listing" "Lcom/example/tideline/tideline/session/FetchSession$Partitions;" (.ref x1) ∧ Fld Z h a1 "com/example/tideline/tideline/session/FetcherSession" "forgetting" "Lcom/example/tideline/tideline/session/FetchSession$Partitions;" (.ref x2) ∧ Fld Z h a1 "com/example/tideline/tideline/session/FetcherSession" "id" "I" (.int p1) ∧ Fld Z h a1 "com/example/tideline/tideline/session/FetcherSession" "pending" "Lcom/example/tideline/tideline/session/FetcherSession$Request;" pv
set_option maxRecDepth 65536 in
set_option maxHeartbeats 40000000 in
theorem rm10z (l : Launch) (Z : State) (a0 : Array Value) (hw : ∀ d ∈ tables_1, d.before a0 Z = true) (ws : List Jvm.Cond) (a1 : Addr) (p3 p1 p2 : Int32) (x1 x2 : Addr) (hv pv : Value) (h0 : Heap) (n0 : Nat) (Z0 : n0 ≤ h0.size) (F_epoch : Fld Z h0 a1 "com/example/tideline/tideline/session/FetcherSession" "epoch" "I" (.int p2)) (F_held : Fld Z h0 a1 "com/example/tideline/tideline/session/FetcherSession" "held" "Lcom/example/tideline/tideline/session/FetchSession$Partitions;" hv) (F_listing : Fld Z h0 a1 "com/example/tideline/tideline/session/FetcherSession" "listing" "Lcom/example/tideline/tideline/session/FetchSession$Partitions;" (.ref x1)) (F_forgetting : Fld Z h0 a1 "com/example/tideline/tideline/session/FetcherSession" "forgetting" "Lcom/example/tideline/tideline/session/FetchSession$Partitions;" (.ref x2)) (F_id : Fld Z h0 a1 "com/example/tideline/tideline/session/FetcherSession" "id" "I" (.int p1)) (F_pending : Fld Z h0 a1 "com/example/tideline/tideline/session/FetcherSession" "pending" "Lcom/example/tideline/tideline/session/FetcherSession$Request;" pv) (E1 : Exa Z h0 a1 "com/example/tideline/tideline/session/FetcherSession") (g1 : n0 ≤ a1) (hp2 : p2 = 0) :
    MetFree l (⟨"com/example/tideline/tideline/session/FetcherSession", "startOver", "(S)Z"⟩ : MethodName) (head1 (Jvm.Cond.code (⟨"com/example/tideline/tideline/session/FetcherSession", "startOver", "(S)Z"⟩ : MethodName) prog_253_method_8_code 2 (some .boolean) :: ws) ({ frames := 0, cells := 0, slots := 0, locals := 0 } : Room)) (fun a U => a = #[(.ref a1), (.int p3)] ∧ Z.Warmed39 U.vm ∧ U.heap = h0) (fun _ _ _ _ _ => True) (fun _ U o U' => ∃ v L, o = .returned v ∧ Q10z Z a1 p3 p1 p2 x1 x2 hv pv h0 n0 v U'.heap L ∧ FrameEnd U o U' L ({ frames := 0, cells := 0, slots := 0, locals := 0 } : Room).cells ({ frames := 0, cells := 0, slots := 0, locals := 0 } : Room).slots) := by
  refine MetFree.of_bodySF (plainFor_of_name pn_10) hisR ?_
  intro p e s m args below meth c s₁ Bd hml0 hP hK
  obtain ⟨rfl, hZ, hh⟩ := hP
  have hx := Bd.exec
  have hby := Bd.bytes
  have hml : c.maxLocals = 2 := hml0
  have hown : s.vm.findClass "com/example/tideline/tideline/session/FetcherSession" = some m.cls := findClass_of_methodNamed Bd.named
  have hnm := (name_of_methodNamed Bd.named Bd.method).1
  have X0 : Stand p l e ({ frames := 0, cells := 0, slots := 0, locals := 0 } : Room) s m #[(.ref a1), (.int p3)] below meth c s₁ [] 0 0 := Stand.of_body Bd
  have e0 : s₁.heap = h0 := by rw [← hh, Bd.state]; rfl
  have N0 := Fr.nil n0
  have pre0 : ∀ t, Steps p.tables e below (s₁.setTop (mkF m 0 #[.val (.ref a1), .val (.int p3)] [])) t → Steps p.tables e below (s₁.setTop (entryFrame m #[(.ref a1), (.int p3)] 2)) t := fun t k => castTop (ef_10 m a1 p3) k
  have KK0 := Keep.refl h0 [a1]
  obtain ⟨T1, X1, e1, st1⟩ := getF X0 hx hZ hown (host := "") (Or.inl (hw _ (List.mem_of_getElem? (i := 9) rfl))) Via.refl e0 F_epoch (g := (mkF m 1 #[.val (.ref a1), .val (.int p3)] [(.ref a1)])) rfl rfl (hb hby d10_1)
  obtain ⟨fs, hr, hrun, hended, hW, hsame⟩ := X1.leave (v := some (.int (0 : Int32))) (fun h => by rw [Bd.returns] at h; cases h)
  refine ⟨_, _, pre0 _ ?_, hrun, hended, _, _, rfl, ?_, ⟨_, rfl⟩, hW, hsame.mono (by decide) (by decide)⟩
  · show Steps p.tables e below (s₁.setTop (mkF m 0 #[.val (.ref a1), .val (.int p3)] [])) _
    refine XS.aloadN X0.here hx rfl (hb hby d10_0) rfl rfl ?_
    show Steps p.tables e below (s₁.setTop (mkF m 1 #[.val (.ref a1), .val (.int p3)] [(.ref a1)])) _
    refine st1 _ ?_
    show Steps p.tables e below (T1.setTop (mkF m 4 #[.val (.ref a1), .val (.int p3)] [(.int p2)])) _
    refine XS.ifNo X1.here hx rfl (hb hby d10_4) rfl ((if0 _ _).trans (teq hp2).2) ?_
    show Steps p.tables e below (T1.setTop (mkF m 7 #[.val (.ref a1), .val (.int p3)] [])) _
    refine XS.iconst X1.here hx rfl (hb hby d10_7) ?_
    show Steps p.tables e below (T1.setTop (mkF m 8 #[.val (.ref a1), .val (.int p3)] [(.int (0 : Int32))])) _
    exact retN X1 hx (t := .boolean) Bd.returns (by simp) (hb hby d10_8) hr
  · show Q10z Z a1 p3 p1 p2 x1 x2 hv pv h0 n0 _ T1.heap _
    rw [e1]
    exact ⟨rfl, N0, KK0, E1, F_epoch, F_held, F_listing, F_forgetting, F_id, F_pending⟩
def Q10a (Z : State) (a1 : Addr) (p3 p1 p2 : Int32) (x1 x2 : Addr) (hv pv : Value) (h0 : Heap) (n0 : Nat) (v : Option Value) (h : Heap) (L : List Loc) : Prop := v = some (.int 1) ∧ Fr n0 L ∧ Keep h0 h [a1] ∧ Exa Z h a1 "com/example/tideline/tideline/session/FetcherSession" ∧ Fld Z h a1 "com/example/tideline/tideline/session/FetcherSession" "epoch" "I" (.int (0 : Int32)) ∧ Fld Z h a1 "com/example/tideline/tideline/session/FetcherSession" "held" "Lcom/example/tideline/tideline/session/FetchSession$Partitions;" hv ∧ Fld Z h a1 "com/example/tideline/tideline/session/FetcherSession" "listing" "Lcom/example/tideline/tideline/session/FetchSession$Partitions;" (.ref x1) ∧ Fld Z h a1 "com/example/tideline/tideline/session/FetcherSession" "forgetting" "Lcom/example/tideline/tideline/session/FetchSession$Partitions;" (.ref x2) ∧ Fld Z h a1 "com/example/tideline/tideline/session/FetcherSession" "id" "I" (.int (0 : Int32)) ∧ Fld Z h a1 "com/example/tideline/tideline/session/FetcherSession" "pending" "Lcom/example/tideline/tideline/session/FetcherSession$Request;" pv
set_option maxRecDepth 65536 in
set_option maxHeartbeats 40000000 in
theorem rm10a (l : Launch) (Z : State) (a0 : Array Value) (hw : ∀ d ∈ tables_1, d.before a0 Z = true) (ws : List Jvm.Cond) (a1 : Addr) (p3 p1 p2 : Int32) (x1 x2 : Addr) (hv pv : Value) (h0 : Heap) (n0 : Nat) (Z0 : n0 ≤ h0.size) (F_epoch : Fld Z h0 a1 "com/example/tideline/tideline/session/FetcherSession" "epoch" "I" (.int p2)) (F_held : Fld Z h0 a1 "com/example/tideline/tideline/session/FetcherSession" "held" "Lcom/example/tideline/tideline/session/FetchSession$Partitions;" hv) (F_listing : Fld Z h0 a1 "com/example/tideline/tideline/session/FetcherSession" "listing" "Lcom/example/tideline/tideline/session/FetchSession$Partitions;" (.ref x1)) (F_forgetting : Fld Z h0 a1 "com/example/tideline/tideline/session/FetcherSession" "forgetting" "Lcom/example/tideline/tideline/session/FetchSession$Partitions;" (.ref x2)) (F_id : Fld Z h0 a1 "com/example/tideline/tideline/session/FetcherSession" "id" "I" (.int p1)) (F_pending : Fld Z h0 a1 "com/example/tideline/tideline/session/FetcherSession" "pending" "Lcom/example/tideline/tideline/session/FetcherSession$Request;" pv) (E1 : Exa Z h0 a1 "com/example/tideline/tideline/session/FetcherSession") (g1 : n0 ≤ a1) (hp2 : ¬ p2 = 0) (hp3 : p3 = (70 : Int32)) :
    MetFree l (⟨"com/example/tideline/tideline/session/FetcherSession", "startOver", "(S)Z"⟩ : MethodName) (head1 (Jvm.Cond.code (⟨"com/example/tideline/tideline/session/FetcherSession", "startOver", "(S)Z"⟩ : MethodName) prog_253_method_8_code 2 (some .boolean) :: ws) ({ frames := 0, cells := 0, slots := 0, locals := 0 } : Room)) (fun a U => a = #[(.ref a1), (.int p3)] ∧ Z.Warmed39 U.vm ∧ U.heap = h0) (fun _ _ _ _ _ => True) (fun _ U o U' => ∃ v L, o = .returned v ∧ Q10a Z a1 p3 p1 p2 x1 x2 hv pv h0 n0 v U'.heap L ∧ FrameEnd U o U' L ({ frames := 0, cells := 0, slots := 0, locals := 0 } : Room).cells ({ frames := 0, cells := 0, slots := 0, locals := 0 } : Room).slots) := by
  refine MetFree.of_bodySF (plainFor_of_name pn_10) hisR ?_
  intro p e s m args below meth c s₁ Bd hml0 hP hK
  obtain ⟨rfl, hZ, hh⟩ := hP
  have hx := Bd.exec
  have hby := Bd.bytes
  have hml : c.maxLocals = 2 := hml0
  have hown : s.vm.findClass "com/example/tideline/tideline/session/FetcherSession" = some m.cls := findClass_of_methodNamed Bd.named
  have hnm := (name_of_methodNamed Bd.named Bd.method).1
  have X0 : Stand p l e ({ frames := 0, cells := 0, slots := 0, locals := 0 } : Room) s m #[(.ref a1), (.int p3)] below meth c s₁ [] 0 0 := Stand.of_body Bd
  have e0 : s₁.heap = h0 := by rw [← hh, Bd.state]; rfl
  have N0 := Fr.nil n0
  have pre0 : ∀ t, Steps p.tables e below (s₁.setTop (mkF m 0 #[.val (.ref a1), .val (.int p3)] [])) t → Steps p.tables e below (s₁.setTop (entryFrame m #[(.ref a1), (.int p3)] 2)) t := fun t k => castTop (ef_10 m a1 p3) k
  have KK0 := Keep.refl h0 [a1]
  obtain ⟨T1, X1, e1, st1⟩ := getF X0 hx hZ hown (host := "") (Or.inl (hw _ (List.mem_of_getElem? (i := 9) rfl))) Via.refl e0 F_epoch (g := (mkF m 1 #[.val (.ref a1), .val (.int p3)] [(.ref a1)])) rfl rfl (hb hby d10_1)
  obtain ⟨T2, h2, X2, e2, W2, st2⟩ := putF X1 hx hZ hown (host := "") (Or.inl (hw _ (List.mem_of_getElem? (i := 60) rfl))) Via.refl e1 F_id E1 (Or.inl (hw _ (List.mem_of_getElem? (i := 61) rfl))) (hw _ (List.mem_of_getElem? (i := 1) rfl)) (ty := .int) (by decide) rfl rfl (g := (mkF m 17 #[.val (.ref a1), .val (.int p3)] [(.int (0 : Int32)), (.ref a1)])) rfl rfl (hb hby d10_17)
  have N2 := Fr.snoc X2 N0 g1
  have Fw2 := Fld.same W2 F_id
  have F_a1_epoch_2 := F_epoch.other W2 (Or.inr (slot_ne (Or.inl (hw _ (List.mem_of_getElem? (i := 10) rfl))) (Or.inl (hw _ (List.mem_of_getElem? (i := 61) rfl))) (by decide) (t := .int) (t' := .int) (by decide) (by decide)))
  have F_a1_held_2 := F_held.other W2 (Or.inr (slot_ne (Or.inl (hw _ (List.mem_of_getElem? (i := 47) rfl))) (Or.inl (hw _ (List.mem_of_getElem? (i := 61) rfl))) (by decide) (t := (.object "com/example/tideline/tideline/session/FetchSession$Partitions")) (t' := .int) (by decide) (by decide)))
  have F_a1_listing_2 := F_listing.other W2 (Or.inr (slot_ne (Or.inl (hw _ (List.mem_of_getElem? (i := 49) rfl))) (Or.inl (hw _ (List.mem_of_getElem? (i := 61) rfl))) (by decide) (t := (.object "com/example/tideline/tideline/session/FetchSession$Partitions")) (t' := .int) (by decide) (by decide)))
  have F_a1_forgetting_2 := F_forgetting.other W2 (Or.inr (slot_ne (Or.inl (hw _ (List.mem_of_getElem? (i := 51) rfl))) (Or.inl (hw _ (List.mem_of_getElem? (i := 61) rfl))) (by decide) (t := (.object "com/example/tideline/tideline/session/FetchSession$Partitions")) (t' := .int) (by decide) (by decide)))
  have F_a1_pending_2 := F_pending.other W2 (Or.inr (slot_ne (Or.inl (hw _ (List.mem_of_getElem? (i := 80) rfl))) (Or.inl (hw _ (List.mem_of_getElem? (i := 61) rfl))) (by decide) (t := (.object "com/example/tideline/tideline/session/FetcherSession$Request")) (t' := .int) (by decide) (by decide)))
  have E_a1_2 := E1.wr W2
  have Zs3 := Nat.le_trans Z0 (Keep.of_wr W2).1
  have Kk2 := KK0.wr W2 (Or.inl (List.mem_of_getElem? (i := 0) rfl))
  obtain ⟨T4, h4, X4, e4, W4, st4⟩ := putF X2 hx hZ hown (host := "") (Or.inl (hw _ (List.mem_of_getElem? (i := 9) rfl))) Via.refl e2 F_a1_epoch_2 E_a1_2 (Or.inl (hw _ (List.mem_of_getElem? (i := 10) rfl))) (hw _ (List.mem_of_getElem? (i := 1) rfl)) (ty := .int) (by decide) rfl rfl (g := (mkF m 33 #[.val (.ref a1), .val (.int p3)] [(.int (0 : Int32)), (.ref a1)])) rfl rfl (hb hby d10_33)
  have N4 := Fr.snoc X4 N2 g1
  have Fw4 := Fld.same W4 F_a1_epoch_2
  have F_a1_held_4 := F_a1_held_2.other W4 (Or.inr (slot_ne (Or.inl (hw _ (List.mem_of_getElem? (i := 47) rfl))) (Or.inl (hw _ (List.mem_of_getElem? (i := 10) rfl))) (by decide) (t := (.object "com/example/tideline/tideline/session/FetchSession$Partitions")) (t' := .int) (by decide) (by decide)))
  have F_a1_listing_4 := F_a1_listing_2.other W4 (Or.inr (slot_ne (Or.inl (hw _ (List.mem_of_getElem? (i := 49) rfl))) (Or.inl (hw _ (List.mem_of_getElem? (i := 10) rfl))) (by decide) (t := (.object "com/example/tideline/tideline/session/FetchSession$Partitions")) (t' := .int) (by decide) (by decide)))
  have F_a1_forgetting_4 := F_a1_forgetting_2.other W4 (Or.inr (slot_ne (Or.inl (hw _ (List.mem_of_getElem? (i := 51) rfl))) (Or.inl (hw _ (List.mem_of_getElem? (i := 10) rfl))) (by decide) (t := (.object "com/example/tideline/tideline/session/FetchSession$Partitions")) (t' := .int) (by decide) (by decide)))
  have F_a1_id_4 := Fw2.other W4 (Or.inr (slot_ne (Or.inl (hw _ (List.mem_of_getElem? (i := 61) rfl))) (Or.inl (hw _ (List.mem_of_getElem? (i := 10) rfl))) (by decide) (t := .int) (t' := .int) (by decide) (by decide)))
  have F_a1_pending_4 := F_a1_pending_2.other W4 (Or.inr (slot_ne (Or.inl (hw _ (List.mem_of_getElem? (i := 80) rfl))) (Or.inl (hw _ (List.mem_of_getElem? (i := 10) rfl))) (by decide) (t := (.object "com/example/tideline/tideline/session/FetcherSession$Request")) (t' := .int) (by decide) (by decide)))
  have E_a1_4 := E_a1_2.wr W4
  have Zs5 := Nat.le_trans Zs3 (Keep.of_wr W4).1
  have Kk4 := Kk2.wr W4 (Or.inl (List.mem_of_getElem? (i := 0) rfl))
  obtain ⟨fs, hr, hrun, hended, hW, hsame⟩ := X4.leave (v := some (.int (1 : Int32))) (fun h => by rw [Bd.returns] at h; cases h)
  refine ⟨_, _, pre0 _ ?_, hrun, hended, _, _, rfl, ?_, ⟨_, rfl⟩, hW, hsame.mono (by decide) (by decide)⟩
  · show Steps p.tables e below (s₁.setTop (mkF m 0 #[.val (.ref a1), .val (.int p3)] [])) _
    refine XS.aloadN X0.here hx rfl (hb hby d10_0) rfl rfl ?_
    show Steps p.tables e below (s₁.setTop (mkF m 1 #[.val (.ref a1), .val (.int p3)] [(.ref a1)])) _
    refine st1 _ ?_
    show Steps p.tables e below (T1.setTop (mkF m 4 #[.val (.ref a1), .val (.int p3)] [(.int p2)])) _
    refine XS.ifYes X1.here hx rfl (pc0 := 4) (pc' := 9) rfl (hb hby d10_4) rfl ((if0 _ _).trans (feq hp2).2) (by decide) (by decide) ?_
    show Steps p.tables e below (T1.setTop (mkF m 9 #[.val (.ref a1), .val (.int p3)] [])) _
    refine XS.iloadN X1.here hx rfl (hb hby d10_9) rfl ?_
    show Steps p.tables e below (T1.setTop (mkF m 10 #[.val (.ref a1), .val (.int p3)] [(.int p3)])) _
    refine XS.bipush X1.here hx rfl (hb hby d10_10) ?_
    show Steps p.tables e below (T1.setTop (mkF m 12 #[.val (.ref a1), .val (.int p3)] [(.int (70 : Int32)), (.int p3)])) _
    refine XS.icmpNo X1.here hx rfl (hb hby d10_12) rfl (teq hp3).2 ?_
    show Steps p.tables e below (T1.setTop (mkF m 15 #[.val (.ref a1), .val (.int p3)] [])) _
    refine XS.aloadN X1.here hx rfl (hb hby d10_15) rfl rfl ?_
    show Steps p.tables e below (T1.setTop (mkF m 16 #[.val (.ref a1), .val (.int p3)] [(.ref a1)])) _
    refine XS.iconst X1.here hx rfl (hb hby d10_16) ?_
    show Steps p.tables e below (T1.setTop (mkF m 17 #[.val (.ref a1), .val (.int p3)] [(.int (0 : Int32)), (.ref a1)])) _
    refine st2 _ ?_
    show Steps p.tables e below (T2.setTop (mkF m 20 #[.val (.ref a1), .val (.int p3)] [])) _
    refine XS.goto X2.here hx rfl (pc0 := 20) (pc' := 31) rfl (hb hby d10_20) (by decide) (by decide) ?_
    show Steps p.tables e below (T2.setTop (mkF m 31 #[.val (.ref a1), .val (.int p3)] [])) _
    refine XS.aloadN X2.here hx rfl (hb hby d10_31) rfl rfl ?_
    show Steps p.tables e below (T2.setTop (mkF m 32 #[.val (.ref a1), .val (.int p3)] [(.ref a1)])) _
    refine XS.iconst X2.here hx rfl (hb hby d10_32) ?_
    show Steps p.tables e below (T2.setTop (mkF m 33 #[.val (.ref a1), .val (.int p3)] [(.int (0 : Int32)), (.ref a1)])) _
    refine st4 _ ?_
    show Steps p.tables e below (T4.setTop (mkF m 36 #[.val (.ref a1), .val (.int p3)] [])) _
    refine XS.iconst X4.here hx rfl (hb hby d10_36) ?_
    show Steps p.tables e below (T4.setTop (mkF m 37 #[.val (.ref a1), .val (.int p3)] [(.int (1 : Int32))])) _
    exact retN X4 hx (t := .boolean) Bd.returns (by simp) (hb hby d10_37) hr
  · show Q10a Z a1 p3 p1 p2 x1 x2 hv pv h0 n0 _ T4.heap _
    rw [e4]
    exact ⟨rfl, N4, Kk4, E_a1_4, Fw4, F_a1_held_4, F_a1_listing_4, F_a1_forgetting_4, F_a1_id_4, F_a1_pending_4⟩
def Q10b (Z : State) (a1 : Addr) (p3 p1 p2 : Int32) (x1 x2 : Addr) (hv pv : Value) (h0 : Heap) (n0 : Nat) (v : Option Value) (h : Heap) (L : List Loc) : Prop := v = some (.int 1) ∧ Fr n0 L ∧ Keep h0 h [a1] ∧ Exa Z h a1 "com/example/tideline/tideline/session/FetcherSession" ∧ Fld Z h a1 "com/example/tideline/tideline/session/FetcherSession" "epoch" "I" (.int (0 : Int32)) ∧ Fld Z h a1 "com/example/tideline/tideline/session/FetcherSession" "held" "Lcom/example/tideline/tideline/session/FetchSession$Partitions;" hv ∧ Fld Z h a1 "com/example/tideline/tideline/session/FetcherSession" "listing" "Lcom/example/tideline/tideline/session/FetchSession$Partitions;" (.ref x1) ∧ Fld Z h a1 "com/example/tideline/tideline/session/FetcherSession" "forgetting" "Lcom/example/tideline/tideline/session/FetchSession$Partitions;" (.ref x2) ∧ Fld Z h a1 "com/example/tideline/tideline/session/FetcherSession" "id" "I" (.int p1) ∧ Fld Z h a1 "com/example/tideline/tideline/session/FetcherSession" "pending" "Lcom/example/tideline/tideline/session/FetcherSession$Request;" pv
set_option maxRecDepth 65536 in
set_option maxHeartbeats 40000000 in
theorem rm10b (l : Launch) (Z : State) (a0 : Array Value) (hw : ∀ d ∈ tables_1, d.before a0 Z = true) (ws : List Jvm.Cond) (a1 : Addr) (p3 p1 p2 : Int32) (x1 x2 : Addr) (hv pv : Value) (h0 : Heap) (n0 : Nat) (Z0 : n0 ≤ h0.size) (F_epoch : Fld Z h0 a1 "com/example/tideline/tideline/session/FetcherSession" "epoch" "I" (.int p2)) (F_held : Fld Z h0 a1 "com/example/tideline/tideline/session/FetcherSession" "held" "Lcom/example/tideline/tideline/session/FetchSession$Partitions;" hv) (F_listing : Fld Z h0 a1 "com/example/tideline/tideline/session/FetcherSession" "listing" "Lcom/example/tideline/tideline/session/FetchSession$Partitions;" (.ref x1)) (F_forgetting : Fld Z h0 a1 "com/example/tideline/tideline/session/FetcherSession" "forgetting" "Lcom/example/tideline/tideline/session/FetchSession$Partitions;" (.ref x2)) (F_id : Fld Z h0 a1 "com/example/tideline/tideline/session/FetcherSession" "id" "I" (.int p1)) (F_pending : Fld Z h0 a1 "com/example/tideline/tideline/session/FetcherSession" "pending" "Lcom/example/tideline/tideline/session/FetcherSession$Request;" pv) (E1 : Exa Z h0 a1 "com/example/tideline/tideline/session/FetcherSession") (g1 : n0 ≤ a1) (hp2 : ¬ p2 = 0) (hp3 : ¬ p3 = (70 : Int32)) (hp4 : p3 = (71 : Int32)) :
    MetFree l (⟨"com/example/tideline/tideline/session/FetcherSession", "startOver", "(S)Z"⟩ : MethodName) (head1 (Jvm.Cond.code (⟨"com/example/tideline/tideline/session/FetcherSession", "startOver", "(S)Z"⟩ : MethodName) prog_253_method_8_code 2 (some .boolean) :: ws) ({ frames := 0, cells := 0, slots := 0, locals := 0 } : Room)) (fun a U => a = #[(.ref a1), (.int p3)] ∧ Z.Warmed39 U.vm ∧ U.heap = h0) (fun _ _ _ _ _ => True) (fun _ U o U' => ∃ v L, o = .returned v ∧ Q10b Z a1 p3 p1 p2 x1 x2 hv pv h0 n0 v U'.heap L ∧ FrameEnd U o U' L ({ frames := 0, cells := 0, slots := 0, locals := 0 } : Room).cells ({ frames := 0, cells := 0, slots := 0, locals := 0 } : Room).slots) := by
  refine MetFree.of_bodySF (plainFor_of_name pn_10) hisR ?_
  intro p e s m args below meth c s₁ Bd hml0 hP hK
  obtain ⟨rfl, hZ, hh⟩ := hP
  have hx := Bd.exec
  have hby := Bd.bytes
  have hml : c.maxLocals = 2 := hml0
  have hown : s.vm.findClass "com/example/tideline/tideline/session/FetcherSession" = some m.cls := findClass_of_methodNamed Bd.named
  have hnm := (name_of_methodNamed Bd.named Bd.method).1
  have X0 : Stand p l e ({ frames := 0, cells := 0, slots := 0, locals := 0 } : Room) s m #[(.ref a1), (.int p3)] below meth c s₁ [] 0 0 := Stand.of_body Bd
  have e0 : s₁.heap = h0 := by rw [← hh, Bd.state]; rfl
  have N0 := Fr.nil n0
  have pre0 : ∀ t, Steps p.tables e below (s₁.setTop (mkF m 0 #[.val (.ref a1), .val (.int p3)] [])) t → Steps p.tables e below (s₁.setTop (entryFrame m #[(.ref a1), (.int p3)] 2)) t := fun t k => castTop (ef_10 m a1 p3) k
  have KK0 := Keep.refl h0 [a1]
  obtain ⟨T1, X1, e1, st1⟩ := getF X0 hx hZ hown (host := "") (Or.inl (hw _ (List.mem_of_getElem? (i := 9) rfl))) Via.refl e0 F_epoch (g := (mkF m 1 #[.val (.ref a1), .val (.int p3)] [(.ref a1)])) rfl rfl (hb hby d10_1)
  obtain ⟨T2, h2, X2, e2, W2, st2⟩ := putF X1 hx hZ hown (host := "") (Or.inl (hw _ (List.mem_of_getElem? (i := 9) rfl))) Via.refl e1 F_epoch E1 (Or.inl (hw _ (List.mem_of_getElem? (i := 10) rfl))) (hw _ (List.mem_of_getElem? (i := 1) rfl)) (ty := .int) (by decide) rfl rfl (g := (mkF m 33 #[.val (.ref a1), .val (.int p3)] [(.int (0 : Int32)), (.ref a1)])) rfl rfl (hb hby d10_33)
  have N2 := Fr.snoc X2 N0 g1
  have Fw2 := Fld.same W2 F_epoch
  have F_a1_held_2 := F_held.other W2 (Or.inr (slot_ne (Or.inl (hw _ (List.mem_of_getElem? (i := 47) rfl))) (Or.inl (hw _ (List.mem_of_getElem? (i := 10) rfl))) (by decide) (t := (.object "com/example/tideline/tideline/session/FetchSession$Partitions")) (t' := .int) (by decide) (by decide)))
  have F_a1_listing_2 := F_listing.other W2 (Or.inr (slot_ne (Or.inl (hw _ (List.mem_of_getElem? (i := 49) rfl))) (Or.inl (hw _ (List.mem_of_getElem? (i := 10) rfl))) (by decide) (t := (.object "com/example/tideline/tideline/session/FetchSession$Partitions")) (t' := .int) (by decide) (by decide)))
  have F_a1_forgetting_2 := F_forgetting.other W2 (Or.inr (slot_ne (Or.inl (hw _ (List.mem_of_getElem? (i := 51) rfl))) (Or.inl (hw _ (List.mem_of_getElem? (i := 10) rfl))) (by decide) (t := (.object "com/example/tideline/tideline/session/FetchSession$Partitions")) (t' := .int) (by decide) (by decide)))
  have F_a1_id_2 := F_id.other W2 (Or.inr (slot_ne (Or.inl (hw _ (List.mem_of_getElem? (i := 61) rfl))) (Or.inl (hw _ (List.mem_of_getElem? (i := 10) rfl))) (by decide) (t := .int) (t' := .int) (by decide) (by decide)))
  have F_a1_pending_2 := F_pending.other W2 (Or.inr (slot_ne (Or.inl (hw _ (List.mem_of_getElem? (i := 80) rfl))) (Or.inl (hw _ (List.mem_of_getElem? (i := 10) rfl))) (by decide) (t := (.object "com/example/tideline/tideline/session/FetcherSession$Request")) (t' := .int) (by decide) (by decide)))
  have E_a1_2 := E1.wr W2
  have Zs3 := Nat.le_trans Z0 (Keep.of_wr W2).1
  have Kk2 := KK0.wr W2 (Or.inl (List.mem_of_getElem? (i := 0) rfl))
  obtain ⟨fs, hr, hrun, hended, hW, hsame⟩ := X2.leave (v := some (.int (1 : Int32))) (fun h => by rw [Bd.returns] at h; cases h)
  refine ⟨_, _, pre0 _ ?_, hrun, hended, _, _, rfl, ?_, ⟨_, rfl⟩, hW, hsame.mono (by decide) (by decide)⟩
  · show Steps p.tables e below (s₁.setTop (mkF m 0 #[.val (.ref a1), .val (.int p3)] [])) _
    refine XS.aloadN X0.here hx rfl (hb hby d10_0) rfl rfl ?_
    show Steps p.tables e below (s₁.setTop (mkF m 1 #[.val (.ref a1), .val (.int p3)] [(.ref a1)])) _
    refine st1 _ ?_
    show Steps p.tables e below (T1.setTop (mkF m 4 #[.val (.ref a1), .val (.int p3)] [(.int p2)])) _
    refine XS.ifYes X1.here hx rfl (pc0 := 4) (pc' := 9) rfl (hb hby d10_4) rfl ((if0 _ _).trans (feq hp2).2) (by decide) (by decide) ?_
    show Steps p.tables e below (T1.setTop (mkF m 9 #[.val (.ref a1), .val (.int p3)] [])) _
    refine XS.iloadN X1.here hx rfl (hb hby d10_9) rfl ?_
    show Steps p.tables e below (T1.setTop (mkF m 10 #[.val (.ref a1), .val (.int p3)] [(.int p3)])) _
    refine XS.bipush X1.here hx rfl (hb hby d10_10) ?_
    show Steps p.tables e below (T1.setTop (mkF m 12 #[.val (.ref a1), .val (.int p3)] [(.int (70 : Int32)), (.int p3)])) _
    refine XS.icmpYes X1.here hx rfl (pc0 := 12) (pc' := 23) rfl (hb hby d10_12) rfl (feq hp3).2 (by decide) (by decide) ?_
    show Steps p.tables e below (T1.setTop (mkF m 23 #[.val (.ref a1), .val (.int p3)] [])) _
    refine XS.iloadN X1.here hx rfl (hb hby d10_23) rfl ?_
    show Steps p.tables e below (T1.setTop (mkF m 24 #[.val (.ref a1), .val (.int p3)] [(.int p3)])) _
    refine XS.bipush X1.here hx rfl (hb hby d10_24) ?_
    show Steps p.tables e below (T1.setTop (mkF m 26 #[.val (.ref a1), .val (.int p3)] [(.int (71 : Int32)), (.int p3)])) _
    refine XS.icmpYes X1.here hx rfl (pc0 := 26) (pc' := 31) rfl (hb hby d10_26) rfl (teq hp4).1 (by decide) (by decide) ?_
    show Steps p.tables e below (T1.setTop (mkF m 31 #[.val (.ref a1), .val (.int p3)] [])) _
    refine XS.aloadN X1.here hx rfl (hb hby d10_31) rfl rfl ?_
    show Steps p.tables e below (T1.setTop (mkF m 32 #[.val (.ref a1), .val (.int p3)] [(.ref a1)])) _
    refine XS.iconst X1.here hx rfl (hb hby d10_32) ?_
    show Steps p.tables e below (T1.setTop (mkF m 33 #[.val (.ref a1), .val (.int p3)] [(.int (0 : Int32)), (.ref a1)])) _
    refine st2 _ ?_
    show Steps p.tables e below (T2.setTop (mkF m 36 #[.val (.ref a1), .val (.int p3)] [])) _
    refine XS.iconst X2.here hx rfl (hb hby d10_36) ?_
    show Steps p.tables e below (T2.setTop (mkF m 37 #[.val (.ref a1), .val (.int p3)] [(.int (1 : Int32))])) _
    exact retN X2 hx (t := .boolean) Bd.returns (by simp) (hb hby d10_37) hr
  · show Q10b Z a1 p3 p1 p2 x1 x2 hv pv h0 n0 _ T2.heap _
    rw [e2]
    exact ⟨rfl, N2, Kk2, E_a1_2, Fw2, F_a1_held_2, F_a1_listing_2, F_a1_forgetting_2, F_a1_id_2, F_a1_pending_2⟩
def Q10c (Z : State) (a1 : Addr) (p3 p1 p2 : Int32) (x1 x2 : Addr) (hv pv : Value) (h0 : Heap) (n0 : Nat) (v : Option Value) (h : Heap) (L : List Loc) : Prop := v = some (.int 0) ∧ Fr n0 L ∧ Keep h0 h [a1] ∧ Exa Z h a1 "com/example/tideline/tideline/session/FetcherSession" ∧ Fld Z h a1 "com/example/tideline/tideline/session/FetcherSession" "epoch" "I" (.int p2) ∧ Fld Z h a1 "com/example/tideline/tideline/session/FetcherSession" "held" "Lcom/example/tideline/tideline/session/FetchSession$Partitions;" hv ∧ Fld Z h a1 "com/example/tideline/tideline/session/FetcherSession" "listing" "Lcom/example/tideline/tideline/session/FetchSession$Partitions;" (.ref x1) ∧ Fld Z h a1 "com/example/tideline/tideline/session/FetcherSession" "forgetting" "Lcom/example/tideline/tideline/session/FetchSession$Partitions;" (.ref x2) ∧ Fld Z h a1 "com/example/tideline/tideline/session/FetcherSession" "id" "I" (.int p1) ∧ Fld Z h a1 "com/example/tideline/tideline/session/FetcherSession" "pending" "Lcom/example/tideline/tideline/session/FetcherSession$Request;" pv
set_option maxRecDepth 65536 in
set_option maxHeartbeats 40000000 in
theorem rm10c (l : Launch) (Z : State) (a0 : Array Value) (hw : ∀ d ∈ tables_1, d.before a0 Z = true) (ws : List Jvm.Cond) (a1 : Addr) (p3 p1 p2 : Int32) (x1 x2 : Addr) (hv pv : Value) (h0 : Heap) (n0 : Nat) (Z0 : n0 ≤ h0.size) (F_epoch : Fld Z h0 a1 "com/example/tideline/tideline/session/FetcherSession" "epoch" "I" (.int p2)) (F_held : Fld Z h0 a1 "com/example/tideline/tideline/session/FetcherSession" "held" "Lcom/example/tideline/tideline/session/FetchSession$Partitions;" hv) (F_listing : Fld Z h0 a1 "com/example/tideline/tideline/session/FetcherSession" "listing" "Lcom/example/tideline/tideline/session/FetchSession$Partitions;" (.ref x1)) (F_forgetting : Fld Z h0 a1 "com/example/tideline/tideline/session/FetcherSession" "forgetting" "Lcom/example/tideline/tideline/session/FetchSession$Partitions;" (.ref x2)) (F_id : Fld Z h0 a1 "com/example/tideline/tideline/session/FetcherSession" "id" "I" (.int p1)) (F_pending : Fld Z h0 a1 "com/example/tideline/tideline/session/FetcherSession" "pending" "Lcom/example/tideline/tideline/session/FetcherSession$Request;" pv) (E1 : Exa Z h0 a1 "com/example/tideline/tideline/session/FetcherSession") (g1 : n0 ≤ a1) (hp2 : ¬ p2 = 0) (hp3 : ¬ p3 = (70 : Int32)) (hp4 : ¬ p3 = (71 : Int32)) :
    MetFree l (⟨"com/example/tideline/tideline/session/FetcherSession", "startOver", "(S)Z"⟩ : MethodName) (head1 (Jvm.Cond.code (⟨"com/example/tideline/tideline/session/FetcherSession", "startOver", "(S)Z"⟩ : MethodName) prog_253_method_8_code 2 (some .boolean) :: ws) ({ frames := 0, cells := 0, slots := 0, locals := 0 } : Room)) (fun a U => a = #[(.ref a1), (.int p3)] ∧ Z.Warmed39 U.vm ∧ U.heap = h0) (fun _ _ _ _ _ => True) (fun _ U o U' => ∃ v L, o = .returned v ∧ Q10c Z a1 p3 p1 p2 x1 x2 hv pv h0 n0 v U'.heap L ∧ FrameEnd U o U' L ({ frames := 0, cells := 0, slots := 0, locals := 0 } : Room).cells ({ frames := 0, cells := 0, slots := 0, locals := 0 } : Room).slots) := by
  refine MetFree.of_bodySF (plainFor_of_name pn_10) hisR ?_
  intro p e s m args below meth c s₁ Bd hml0 hP hK
  obtain ⟨rfl, hZ, hh⟩ := hP
  have hx := Bd.exec
  have hby := Bd.bytes
  have hml : c.maxLocals = 2 := hml0
  have hown : s.vm.findClass "com/example/tideline/tideline/session/FetcherSession" = some m.cls := findClass_of_methodNamed Bd.named
  have hnm := (name_of_methodNamed Bd.named Bd.method).1
  have X0 : Stand p l e ({ frames := 0, cells := 0, slots := 0, locals := 0 } : Room) s m #[(.ref a1), (.int p3)] below meth c s₁ [] 0 0 := Stand.of_body Bd
  have e0 : s₁.heap = h0 := by rw [← hh, Bd.state]; rfl
  have N0 := Fr.nil n0
  have pre0 : ∀ t, Steps p.tables e below (s₁.setTop (mkF m 0 #[.val (.ref a1), .val (.int p3)] [])) t → Steps p.tables e below (s₁.setTop (entryFrame m #[(.ref a1), (.int p3)] 2)) t := fun t k => castTop (ef_10 m a1 p3) k
  have KK0 := Keep.refl h0 [a1]
  obtain ⟨T1, X1, e1, st1⟩ := getF X0 hx hZ hown (host := "") (Or.inl (hw _ (List.mem_of_getElem? (i := 9) rfl))) Via.refl e0 F_epoch (g := (mkF m 1 #[.val (.ref a1), .val (.int p3)] [(.ref a1)])) rfl rfl (hb hby d10_1)
  obtain ⟨fs, hr, hrun, hended, hW, hsame⟩ := X1.leave (v := some (.int (0 : Int32))) (fun h => by rw [Bd.returns] at h; cases h)
  refine ⟨_, _, pre0 _ ?_, hrun, hended, _, _, rfl, ?_, ⟨_, rfl⟩, hW, hsame.mono (by decide) (by decide)⟩
  · show Steps p.tables e below (s₁.setTop (mkF m 0 #[.val (.ref a1), .val (.int p3)] [])) _
    refine XS.aloadN X0.here hx rfl (hb hby d10_0) rfl rfl ?_
    show Steps p.tables e below (s₁.setTop (mkF m 1 #[.val (.ref a1), .val (.int p3)] [(.ref a1)])) _
    refine st1 _ ?_
    show Steps p.tables e below (T1.setTop (mkF m 4 #[.val (.ref a1), .val (.int p3)] [(.int p2)])) _
    refine XS.ifYes X1.here hx rfl (pc0 := 4) (pc' := 9) rfl (hb hby d10_4) rfl ((if0 _ _).trans (feq hp2).2) (by decide) (by decide) ?_
    show Steps p.tables e below (T1.setTop (mkF m 9 #[.val (.ref a1), .val (.int p3)] [])) _
    refine XS.iloadN X1.here hx rfl (hb hby d10_9) rfl ?_
    show Steps p.tables e below (T1.setTop (mkF m 10 #[.val (.ref a1), .val (.int p3)] [(.int p3)])) _
    refine XS.bipush X1.here hx rfl (hb hby d10_10) ?_
    show Steps p.tables e below (T1.setTop (mkF m 12 #[.val (.ref a1), .val (.int p3)] [(.int (70 : Int32)), (.int p3)])) _
    refine XS.icmpYes X1.here hx rfl (pc0 := 12) (pc' := 23) rfl (hb hby d10_12) rfl (feq hp3).2 (by decide) (by decide) ?_
    show Steps p.tables e below (T1.setTop (mkF m 23 #[.val (.ref a1), .val (.int p3)] [])) _
    refine XS.iloadN X1.here hx rfl (hb hby d10_23) rfl ?_
    show Steps p.tables e below (T1.setTop (mkF m 24 #[.val (.ref a1), .val (.int p3)] [(.int p3)])) _
    refine XS.bipush X1.here hx rfl (hb hby d10_24) ?_
    show Steps p.tables e below (T1.setTop (mkF m 26 #[.val (.ref a1), .val (.int p3)] [(.int (71 : Int32)), (.int p3)])) _
    refine XS.icmpNo X1.here hx rfl (hb hby d10_26) rfl (feq hp4).1 ?_
    show Steps p.tables e below (T1.setTop (mkF m 29 #[.val (.ref a1), .val (.int p3)] [])) _
    refine XS.iconst X1.here hx rfl (hb hby d10_29) ?_
    show Steps p.tables e below (T1.setTop (mkF m 30 #[.val (.ref a1), .val (.int p3)] [(.int (0 : Int32))])) _
    exact retN X1 hx (t := .boolean) Bd.returns (by simp) (hb hby d10_30) hr
  · show Q10c Z a1 p3 p1 p2 x1 x2 hv pv h0 n0 _ T1.heap _
    rw [e1]
    exact ⟨rfl, N0, KK0, E1, F_epoch, F_held, F_listing, F_forgetting, F_id, F_pending⟩
def Q14z (Z : State) (a1 : Addr) (p3 p1 p2 : Int32) (x1 x2 : Addr) (hv : Value) (rq : Addr) (h0 : Heap) (n0 : Nat) (v : Option Value) (h : Heap) (L : List Loc) : Prop := v = none ∧ Fr n0 L ∧ Keep h0 h [a1] ∧ Exa Z h a1 "com/example/tideline/tideline/session/FetcherSession" ∧ Fld Z h a1 "com/example/tideline/tideline/session/FetcherSession" "epoch" "I" (.int p2) ∧ Fld Z h a1 "com/example/tideline/tideline/session/FetcherSession" "held" "Lcom/example/tideline/tideline/session/FetchSession$Partitions;" hv ∧ Fld Z h a1 "com/example/tideline/tideline/session/FetcherSession" "listing" "Lcom/example/tideline/tideline/session/FetchSession$Partitions;" (.ref x1) ∧ Fld Z h a1 "com/example/tideline/tideline/session/FetcherSession" "forgetting" "Lcom/example/tideline/tideline/session/FetchSession$Partitions;" (.ref x2) ∧ Fld Z h a1 "com/example/tideline/tideline/session/FetcherSession" "id" "I" (.int p3) ∧ Fld Z h a1 "com/example/tideline/tideline/session/FetcherSession" "pending" "Lcom/example/tideline/tideline/session/FetcherSession$Request;" (.ref rq)
set_option maxRecDepth 65536 in
set_option maxHeartbeats 40000000 in
theorem rm14z (l : Launch) (Z : State) (a0 : Array Value) (hw : ∀ d ∈ tables_1, d.before a0 Z = true) (ws : List Jvm.Cond) (a1 : Addr) (p3 p1 p2 : Int32) (x1 x2 : Addr) (hv : Value) (rq : Addr) (h0 : Heap) (n0 : Nat) (Z0 : n0 ≤ h0.size) (F_epoch : Fld Z h0 a1 "com/example/tideline/tideline/session/FetcherSession" "epoch" "I" (.int p2)) (F_held : Fld Z h0 a1 "com/example/tideline/tideline/session/FetcherSession" "held" "Lcom/example/tideline/tideline/session/FetchSession$Partitions;" hv) (F_listing : Fld Z h0 a1 "com/example/tideline/tideline/session/FetcherSession" "listing" "Lcom/example/tideline/tideline/session/FetchSession$Partitions;" (.ref x1)) (F_forgetting : Fld Z h0 a1 "com/example/tideline/tideline/session/FetcherSession" "forgetting" "Lcom/example/tideline/tideline/session/FetchSession$Partitions;" (.ref x2)) (F_id : Fld Z h0 a1 "com/example/tideline/tideline/session/FetcherSession" "id" "I" (.int p1)) (F_pending : Fld Z h0 a1 "com/example/tideline/tideline/session/FetcherSession" "pending" "Lcom/example/tideline/tideline/session/FetcherSession$Request;" (.ref rq)) (E1 : Exa Z h0 a1 "com/example/tideline/tideline/session/FetcherSession") (g1 : n0 ≤ a1) (hp2 : p2 = 0) (hp3 : p3 = 0) :
    MetFree l (⟨"com/example/tideline/tideline/session/FetcherSession", "accepted", "(I)V"⟩ : MethodName) (head1 (Jvm.Cond.code (⟨"com/example/tideline/tideline/session/FetcherSession", "accepted", "(I)V"⟩ : MethodName) prog_253_method_5_code 2 none :: ws) ({ frames := 0, cells := 0, slots := 0, locals := 0 } : Room)) (fun a U => a = #[(.ref a1), (.int p3)] ∧ Z.Warmed39 U.vm ∧ U.heap = h0) (fun _ _ _ _ _ => True) (fun _ U o U' => ∃ v L, o = .returned v ∧ Q14z Z a1 p3 p1 p2 x1 x2 hv rq h0 n0 v U'.heap L ∧ FrameEnd U o U' L ({ frames := 0, cells := 0, slots := 0, locals := 0 } : Room).cells ({ frames := 0, cells := 0, slots := 0, locals := 0 } : Room).slots) := by
  refine MetFree.of_bodySF (plainFor_of_name pn_14) hisR ?_
  intro p e s m args below meth c s₁ Bd hml0 hP hK
  obtain ⟨rfl, hZ, hh⟩ := hP
  have hx := Bd.exec
  have hby := Bd.bytes
  have hml : c.maxLocals = 2 := hml0
  have hown : s.vm.findClass "com/example/tideline/tideline/session/FetcherSession" = some m.cls := findClass_of_methodNamed Bd.named
  have hnm := (name_of_methodNamed Bd.named Bd.method).1
  have X0 : Stand p l e ({ frames := 0, cells := 0, slots := 0, locals := 0 } : Room) s m #[(.ref a1), (.int p3)] below meth c s₁ [] 0 0 := Stand.of_body Bd
  have e0 : s₁.heap = h0 := by rw [← hh, Bd.state]; rfl
  have N0 := Fr.nil n0
  have pre0 : ∀ t, Steps p.tables e below (s₁.setTop (mkF m 0 #[.val (.ref a1), .val (.int p3)] [])) t → Steps p.tables e below (s₁.setTop (entryFrame m #[(.ref a1), (.int p3)] 2)) t := fun t k => castTop (ef_14 m a1 p3) k
  have KK0 := Keep.refl h0 [a1]
  obtain ⟨T1, X1, e1, st1⟩ := getF X0 hx hZ hown (host := "") (Or.inl (hw _ (List.mem_of_getElem? (i := 9) rfl))) Via.refl e0 F_epoch (g := (mkF m 1 #[.val (.ref a1), .val (.int p3)] [(.ref a1)])) rfl rfl (hb hby d14_1)
  obtain ⟨T2, h2, X2, e2, W2, st2⟩ := putF X1 hx hZ hown (host := "") (Or.inl (hw _ (List.mem_of_getElem? (i := 60) rfl))) Via.refl e1 F_id E1 (Or.inl (hw _ (List.mem_of_getElem? (i := 61) rfl))) (hw _ (List.mem_of_getElem? (i := 1) rfl)) (ty := .int) (by decide) rfl rfl (g := (mkF m 9 #[.val (.ref a1), .val (.int p3)] [(.int p3), (.ref a1)])) rfl rfl (hb hby d14_9)
  have N2 := Fr.snoc X2 N0 g1
  have Fw2 := Fld.same W2 F_id
  have F_a1_epoch_2 := F_epoch.other W2 (Or.inr (slot_ne (Or.inl (hw _ (List.mem_of_getElem? (i := 10) rfl))) (Or.inl (hw _ (List.mem_of_getElem? (i := 61) rfl))) (by decide) (t := .int) (t' := .int) (by decide) (by decide)))
  have F_a1_held_2 := F_held.other W2 (Or.inr (slot_ne (Or.inl (hw _ (List.mem_of_getElem? (i := 47) rfl))) (Or.inl (hw _ (List.mem_of_getElem? (i := 61) rfl))) (by decide) (t := (.object "com/example/tideline/tideline/session/FetchSession$Partitions")) (t' := .int) (by decide) (by decide)))
  have F_a1_listing_2 := F_listing.other W2 (Or.inr (slot_ne (Or.inl (hw _ (List.mem_of_getElem? (i := 49) rfl))) (Or.inl (hw _ (List.mem_of_getElem? (i := 61) rfl))) (by decide) (t := (.object "com/example/tideline/tideline/session/FetchSession$Partitions")) (t' := .int) (by decide) (by decide)))
  have F_a1_forgetting_2 := F_forgetting.other W2 (Or.inr (slot_ne (Or.inl (hw _ (List.mem_of_getElem? (i := 51) rfl))) (Or.inl (hw _ (List.mem_of_getElem? (i := 61) rfl))) (by decide) (t := (.object "com/example/tideline/tideline/session/FetchSession$Partitions")) (t' := .int) (by decide) (by decide)))
  have F_a1_pending_2 := F_pending.other W2 (Or.inr (slot_ne (Or.inl (hw _ (List.mem_of_getElem? (i := 80) rfl))) (Or.inl (hw _ (List.mem_of_getElem? (i := 61) rfl))) (by decide) (t := (.object "com/example/tideline/tideline/session/FetcherSession$Request")) (t' := .int) (by decide) (by decide)))
  have E_a1_2 := E1.wr W2
  have Zs3 := Nat.le_trans Z0 (Keep.of_wr W2).1
  have Kk2 := KK0.wr W2 (Or.inl (List.mem_of_getElem? (i := 0) rfl))
  obtain ⟨T4, X4, e4, st4⟩ := getF X2 hx hZ hown (host := "") (Or.inl (hw _ (List.mem_of_getElem? (i := 60) rfl))) Via.refl e2 Fw2 (g := (mkF m 13 #[.val (.ref a1), .val (.int p3)] [(.ref a1)])) rfl rfl (hb hby d14_13)
  obtain ⟨fs, hr, hrun, hended, hW, hsame⟩ := X4.leave (v := none) (fun _ => rfl)
  refine ⟨_, _, pre0 _ ?_, hrun, hended, _, _, rfl, ?_, ⟨_, rfl⟩, hW, hsame.mono (by decide) (by decide)⟩
  · show Steps p.tables e below (s₁.setTop (mkF m 0 #[.val (.ref a1), .val (.int p3)] [])) _
    refine XS.aloadN X0.here hx rfl (hb hby d14_0) rfl rfl ?_
    show Steps p.tables e below (s₁.setTop (mkF m 1 #[.val (.ref a1), .val (.int p3)] [(.ref a1)])) _
    refine st1 _ ?_
    show Steps p.tables e below (T1.setTop (mkF m 4 #[.val (.ref a1), .val (.int p3)] [(.int p2)])) _
    refine XS.ifNo X1.here hx rfl (hb hby d14_4) rfl ((if0 _ _).trans (teq hp2).2) ?_
    show Steps p.tables e below (T1.setTop (mkF m 7 #[.val (.ref a1), .val (.int p3)] [])) _
    refine XS.aloadN X1.here hx rfl (hb hby d14_7) rfl rfl ?_
    show Steps p.tables e below (T1.setTop (mkF m 8 #[.val (.ref a1), .val (.int p3)] [(.ref a1)])) _
    refine XS.iloadN X1.here hx rfl (hb hby d14_8) rfl ?_
    show Steps p.tables e below (T1.setTop (mkF m 9 #[.val (.ref a1), .val (.int p3)] [(.int p3), (.ref a1)])) _
    refine st2 _ ?_
    show Steps p.tables e below (T2.setTop (mkF m 12 #[.val (.ref a1), .val (.int p3)] [])) _
    refine XS.aloadN X2.here hx rfl (hb hby d14_12) rfl rfl ?_
    show Steps p.tables e below (T2.setTop (mkF m 13 #[.val (.ref a1), .val (.int p3)] [(.ref a1)])) _
    refine st4 _ ?_
    show Steps p.tables e below (T4.setTop (mkF m 16 #[.val (.ref a1), .val (.int p3)] [(.int p3)])) _
    refine XS.ifNo X4.here hx rfl (hb hby d14_16) rfl ((if0 _ _).trans (teq hp3).2) ?_
    show Steps p.tables e below (T4.setTop (mkF m 19 #[.val (.ref a1), .val (.int p3)] [])) _
    exact X4.returnOut hx Bd.returns (hb hby d14_19) hr
  · show Q14z Z a1 p3 p1 p2 x1 x2 hv rq h0 n0 _ T4.heap _
    rw [e4]
    exact ⟨rfl, N2, Kk2, E_a1_2, F_a1_epoch_2, F_a1_held_2, F_a1_listing_2, F_a1_forgetting_2, Fw2, F_a1_pending_2⟩
def Q14a (Z : State) (a1 : Addr) (p3 p1 p2 : Int32) (x1 x2 : Addr) (hv : Value) (rq : Addr) (x3 : Addr) (h0 : Heap) (n0 : Nat) (v : Option Value) (h : Heap) (L : List Loc) : Prop := v = none ∧ Fr n0 L ∧ Keep h0 h [a1] ∧ Exa Z h a1 "com/example/tideline/tideline/session/FetcherSession" ∧ Fld Z h a1 "com/example/tideline/tideline/session/FetcherSession" "epoch" "I" (.int (1 : Int32)) ∧ Fld Z h a1 "com/example/tideline/tideline/session/FetcherSession" "held" "Lcom/example/tideline/tideline/session/FetchSession$Partitions;" (.ref x3) ∧ Fld Z h a1 "com/example/tideline/tideline/session/FetcherSession" "listing" "Lcom/example/tideline/tideline/session/FetchSession$Partitions;" (.ref x1) ∧ Fld Z h a1 "com/example/tideline/tideline/session/FetcherSession" "forgetting" "Lcom/example/tideline/tideline/session/FetchSession$Partitions;" (.ref x2) ∧ Fld Z h a1 "com/example/tideline/tideline/session/FetcherSession" "id" "I" (.int p3) ∧ Fld Z h a1 "com/example/tideline/tideline/session/FetcherSession" "pending" "Lcom/example/tideline/tideline/session/FetcherSession$Request;" (.ref rq)
set_option maxRecDepth 65536 in
set_option maxHeartbeats 40000000 in
theorem rm14a (l : Launch) (Z : State) (a0 : Array Value) (hw : ∀ d ∈ tables_1, d.before a0 Z = true) (ws : List Jvm.Cond) (a1 : Addr) (p3 p1 p2 : Int32) (x1 x2 : Addr) (hv : Value) (rq : Addr) (x3 : Addr) (h0 : Heap) (n0 : Nat) (Z0 : n0 ≤ h0.size) (F_epoch : Fld Z h0 a1 "com/example/tideline/tideline/session/FetcherSession" "epoch" "I" (.int p2)) (F_held : Fld Z h0 a1 "com/example/tideline/tideline/session/FetcherSession" "held" "Lcom/example/tideline/tideline/session/FetchSession$Partitions;" hv) (F_listing : Fld Z h0 a1 "com/example/tideline/tideline/session/FetcherSession" "listing" "Lcom/example/tideline/tideline/session/FetchSession$Partitions;" (.ref x1)) (F_forgetting : Fld Z h0 a1 "com/example/tideline/tideline/session/FetcherSession" "forgetting" "Lcom/example/tideline/tideline/session/FetchSession$Partitions;" (.ref x2)) (F_id : Fld Z h0 a1 "com/example/tideline/tideline/session/FetcherSession" "id" "I" (.int p1)) (F_pending : Fld Z h0 a1 "com/example/tideline/tideline/session/FetcherSession" "pending" "Lcom/example/tideline/tideline/session/FetcherSession$Request;" (.ref rq)) (E1 : Exa Z h0 a1 "com/example/tideline/tideline/session/FetcherSession") (g1 : n0 ≤ a1) (hp2 : p2 = 0) (hp3 : ¬ p3 = 0) (Erq : Exa Z h0 rq "com/example/tideline/tideline/session/FetcherSession$Request") (F2 : Fld Z h0 rq "com/example/tideline/tideline/session/FetcherSession$Request" "listed" "Lcom/example/tideline/tideline/session/FetchSession$Partitions;" (.ref x3)) (ne1 : rq ≠ a1) :
    MetFree l (⟨"com/example/tideline/tideline/session/FetcherSession", "accepted", "(I)V"⟩ : MethodName) (head1 (Jvm.Cond.code (⟨"com/example/tideline/tideline/session/FetcherSession", "accepted", "(I)V"⟩ : MethodName) prog_253_method_5_code 2 none :: ws) ({ frames := 1, cells := 0, slots := 0, locals := 13 } : Room)) (fun a U => a = #[(.ref a1), (.int p3)] ∧ Z.Warmed39 U.vm ∧ U.heap = h0) (fun _ _ _ _ _ => True) (fun _ U o U' => ∃ v L, o = .returned v ∧ Q14a Z a1 p3 p1 p2 x1 x2 hv rq x3 h0 n0 v U'.heap L ∧ FrameEnd U o U' L ({ frames := 1, cells := 0, slots := 0, locals := 13 } : Room).cells ({ frames := 1, cells := 0, slots := 0, locals := 13 } : Room).slots) := by
  refine MetFree.of_bodySF (plainFor_of_name pn_14) hisR ?_
  intro p e s m args below meth c s₁ Bd hml0 hP hK
  obtain ⟨rfl, hZ, hh⟩ := hP
  have hx := Bd.exec
  have hby := Bd.bytes
  have hml : c.maxLocals = 2 := hml0
  have hown : s.vm.findClass "com/example/tideline/tideline/session/FetcherSession" = some m.cls := findClass_of_methodNamed Bd.named
  have hnm := (name_of_methodNamed Bd.named Bd.method).1
  have X0 : Stand p l e ({ frames := 1, cells := 0, slots := 0, locals := 13 } : Room) s m #[(.ref a1), (.int p3)] below meth c s₁ [] 0 0 := Stand.of_body Bd
  have e0 : s₁.heap = h0 := by rw [← hh, Bd.state]; rfl
  have N0 := Fr.nil n0
  have pre0 : ∀ t, Steps p.tables e below (s₁.setTop (mkF m 0 #[.val (.ref a1), .val (.int p3)] [])) t → Steps p.tables e below (s₁.setTop (entryFrame m #[(.ref a1), (.int p3)] 2)) t := fun t k => castTop (ef_14 m a1 p3) k
  have KK0 := Keep.refl h0 [a1]
  obtain ⟨T1, X1, e1, st1⟩ := getF X0 hx hZ hown (host := "") (Or.inl (hw _ (List.mem_of_getElem? (i := 9) rfl))) Via.refl e0 F_epoch (g := (mkF m 1 #[.val (.ref a1), .val (.int p3)] [(.ref a1)])) rfl rfl (hb hby d14_1)
  obtain ⟨T2, h2, X2, e2, W2, st2⟩ := putF X1 hx hZ hown (host := "") (Or.inl (hw _ (List.mem_of_getElem? (i := 60) rfl))) Via.refl e1 F_id E1 (Or.inl (hw _ (List.mem_of_getElem? (i := 61) rfl))) (hw _ (List.mem_of_getElem? (i := 1) rfl)) (ty := .int) (by decide) rfl rfl (g := (mkF m 9 #[.val (.ref a1), .val (.int p3)] [(.int p3), (.ref a1)])) rfl rfl (hb hby d14_9)
  have N2 := Fr.snoc X2 N0 g1
  have Fw2 := Fld.same W2 F_id
  have F_a1_epoch_2 := F_epoch.other W2 (Or.inr (slot_ne (Or.inl (hw _ (List.mem_of_getElem? (i := 10) rfl))) (Or.inl (hw _ (List.mem_of_getElem? (i := 61) rfl))) (by decide) (t := .int) (t' := .int) (by decide) (by decide)))
  have F_a1_held_2 := F_held.other W2 (Or.inr (slot_ne (Or.inl (hw _ (List.mem_of_getElem? (i := 47) rfl))) (Or.inl (hw _ (List.mem_of_getElem? (i := 61) rfl))) (by decide) (t := (.object "com/example/tideline/tideline/session/FetchSession$Partitions")) (t' := .int) (by decide) (by decide)))
  have F_a1_listing_2 := F_listing.other W2 (Or.inr (slot_ne (Or.inl (hw _ (List.mem_of_getElem? (i := 49) rfl))) (Or.inl (hw _ (List.mem_of_getElem? (i := 61) rfl))) (by decide) (t := (.object "com/example/tideline/tideline/session/FetchSession$Partitions")) (t' := .int) (by decide) (by decide)))
  have F_a1_forgetting_2 := F_forgetting.other W2 (Or.inr (slot_ne (Or.inl (hw _ (List.mem_of_getElem? (i := 51) rfl))) (Or.inl (hw _ (List.mem_of_getElem? (i := 61) rfl))) (by decide) (t := (.object "com/example/tideline/tideline/session/FetchSession$Partitions")) (t' := .int) (by decide) (by decide)))
  have F_a1_pending_2 := F_pending.other W2 (Or.inr (slot_ne (Or.inl (hw _ (List.mem_of_getElem? (i := 80) rfl))) (Or.inl (hw _ (List.mem_of_getElem? (i := 61) rfl))) (by decide) (t := (.object "com/example/tideline/tideline/session/FetcherSession$Request")) (t' := .int) (by decide) (by decide)))
  have E_a1_2 := E1.wr W2
  have E_rq_2 := Erq.wr W2
  have F_rq_listed_2 := F2.other W2 (Or.inl ne1)
  have Zs3 := Nat.le_trans Z0 (Keep.of_wr W2).1
  have Kk2 := KK0.wr W2 (Or.inl (List.mem_of_getElem? (i := 0) rfl))
  obtain ⟨T4, X4, e4, st4⟩ := getF X2 hx hZ hown (host := "") (Or.inl (hw _ (List.mem_of_getElem? (i := 60) rfl))) Via.refl e2 Fw2 (g := (mkF m 13 #[.val (.ref a1), .val (.int p3)] [(.ref a1)])) rfl rfl (hb hby d14_13)
  obtain ⟨T5, h5, X5, e5, W5, st5⟩ := putF X4 hx hZ hown (host := "") (Or.inl (hw _ (List.mem_of_getElem? (i := 9) rfl))) Via.refl e4 F_a1_epoch_2 E_a1_2 (Or.inl (hw _ (List.mem_of_getElem? (i := 10) rfl))) (hw _ (List.mem_of_getElem? (i := 1) rfl)) (ty := .int) (by decide) rfl rfl (g := (mkF m 22 #[.val (.ref a1), .val (.int p3)] [(.int (1 : Int32)), (.ref a1)])) rfl rfl (hb hby d14_22)
  have N5 := Fr.snoc X5 N2 g1
  have Fw5 := Fld.same W5 F_a1_epoch_2
  have F_a1_held_5 := F_a1_held_2.other W5 (Or.inr (slot_ne (Or.inl (hw _ (List.mem_of_getElem? (i := 47) rfl))) (Or.inl (hw _ (List.mem_of_getElem? (i := 10) rfl))) (by decide) (t := (.object "com/example/tideline/tideline/session/FetchSession$Partitions")) (t' := .int) (by decide) (by decide)))
  have F_a1_listing_5 := F_a1_listing_2.other W5 (Or.inr (slot_ne (Or.inl (hw _ (List.mem_of_getElem? (i := 49) rfl))) (Or.inl (hw _ (List.mem_of_getElem? (i := 10) rfl))) (by decide) (t := (.object "com/example/tideline/tideline/session/FetchSession$Partitions")) (t' := .int) (by decide) (by decide)))
  have F_a1_forgetting_5 := F_a1_forgetting_2.other W5 (Or.inr (slot_ne (Or.inl (hw _ (List.mem_of_getElem? (i := 51) rfl))) (Or.inl (hw _ (List.mem_of_getElem? (i := 10) rfl))) (by decide) (t := (.object "com/example/tideline/tideline/session/FetchSession$Partitions")) (t' := .int) (by decide) (by decide)))
  have F_a1_id_5 := Fw2.other W5 (Or.inr (slot_ne (Or.inl (hw _ (List.mem_of_getElem? (i := 61) rfl))) (Or.inl (hw _ (List.mem_of_getElem? (i := 10) rfl))) (by decide) (t := .int) (t' := .int) (by decide) (by decide)))
  have F_a1_pending_5 := F_a1_pending_2.other W5 (Or.inr (slot_ne (Or.inl (hw _ (List.mem_of_getElem? (i := 80) rfl))) (Or.inl (hw _ (List.mem_of_getElem? (i := 10) rfl))) (by decide) (t := (.object "com/example/tideline/tideline/session/FetcherSession$Request")) (t' := .int) (by decide) (by decide)))
  have E_a1_5 := E_a1_2.wr W5
  have E_rq_5 := E_rq_2.wr W5
  have F_rq_listed_5 := F_rq_listed_2.other W5 (Or.inl ne1)
  have Zs6 := Nat.le_trans Zs3 (Keep.of_wr W5).1
  have Kk5 := Kk2.wr W5 (Or.inl (List.mem_of_getElem? (i := 0) rfl))
  obtain ⟨T7, X7, e7, st7⟩ := getF X5 hx hZ hown (host := "") (Or.inl (hw _ (List.mem_of_getElem? (i := 79) rfl))) Via.refl e5 F_a1_pending_5 (g := (mkF m 27 #[.val (.ref a1), .val (.int p3)] [(.ref a1), (.ref a1)])) rfl rfl (hb hby d14_27)
  obtain ⟨cq8, kq8, q8a, q8b, q8c⟩ := isOf hZ e7 E_rq_5
  obtain ⟨_, _, ⟨T8, L8, k8, n8⟩, -, X8, ⟨Lc8, hQ8, l8, y8, z8⟩, st8⟩ := X7.virtualBack hx (y := (⟨"com/example/tideline/tideline/session/FetcherSession$Request", "listed", "()Lcom/example/tideline/tideline/session/FetchSession$Partitions;"⟩ : MethodName)) (z := (⟨"com/example/tideline/tideline/session/FetcherSession$Request", "listed", "()Lcom/example/tideline/tideline/session/FetchSession$Partitions;"⟩ : MethodName)) hown (mvT hZ (hw _ (List.mem_of_getElem? (i := 106) rfl))) (mvT hZ (hw _ (List.mem_of_getElem? (i := 107) rfl))) (notFace_of_selects (args := #[]) (mvT hZ (hw _ (List.mem_of_getElem? (i := 109) rfl)))) (mvT hZ (hw _ (List.mem_of_getElem? (i := 109) rfl))) (mvT hZ (hw _ (List.mem_of_getElem? (i := 108) rfl))) (by decide) (backOf (W := 1) (rm15 l Z a0 hw [] rq x3 h5 n0 Zs6 F_rq_listed_5) hZ (hw _ (List.mem_of_getElem? (i := 110) rfl)) (hw _ (List.mem_of_getElem? (i := 59) rfl)) (by decide) (by decide)) q8a q8c (g := (mkF m 30 #[.val (.ref a1), .val (.int p3)] [(.ref rq), (.ref a1)])) rfl (by rw [hml]; rfl) (Steps.refl _) (argsL := []) (rest := [(.ref a1)]) (lenOf pd_3 rfl) rfl (by show 2 * 0 + _ ≤ _; exact Nat.le_of_eq rfl) (hb hby d14_30) (fun _ _ => ⟨rfl, e7, (by decide : 0 + 0 ≤ _), (by decide : 0 + 0 ≤ _)⟩)
  dsimp only [Pt.U, Pt.locs, Pt.cells, Pt.slots] at X8 l8 y8 z8 st8 hQ8
  subst l8 y8 z8
  obtain ⟨rfl, N8q, e8q⟩ := hQ8
  have N8 := Fr.app N5 N8q
  obtain ⟨T9, h9, X9, e9, W9, st9⟩ := putF X8 hx hZ hown (host := "") (Or.inl (hw _ (List.mem_of_getElem? (i := 46) rfl))) Via.refl e8q F_a1_held_5 E_a1_5 (Or.inl (hw _ (List.mem_of_getElem? (i := 47) rfl))) (hw _ (List.mem_of_getElem? (i := 1) rfl)) (ty := (.object "com/example/tideline/tideline/session/FetchSession$Partitions")) (by decide) rfl rfl (g := (mkF m 33 #[.val (.ref a1), .val (.int p3)] [(.ref x3), (.ref a1)])) rfl rfl (hb hby d14_33)
  have N9 := Fr.snoc X9 N8 g1
  have Fw9 := Fld.same W9 F_a1_held_5
  have F_a1_epoch_9 := Fw5.other W9 (Or.inr (slot_ne (Or.inl (hw _ (List.mem_of_getElem? (i := 10) rfl))) (Or.inl (hw _ (List.mem_of_getElem? (i := 47) rfl))) (by decide) (t := .int) (t' := (.object "com/example/tideline/tideline/session/FetchSession$Partitions")) (by decide) (by decide)))
  have F_a1_listing_9 := F_a1_listing_5.other W9 (Or.inr (slot_ne (Or.inl (hw _ (List.mem_of_getElem? (i := 49) rfl))) (Or.inl (hw _ (List.mem_of_getElem? (i := 47) rfl))) (by decide) (t := (.object "com/example/tideline/tideline/session/FetchSession$Partitions")) (t' := (.object "com/example/tideline/tideline/session/FetchSession$Partitions")) (by decide) (by decide)))
  have F_a1_forgetting_9 := F_a1_forgetting_5.other W9 (Or.inr (slot_ne (Or.inl (hw _ (List.mem_of_getElem? (i := 51) rfl))) (Or.inl (hw _ (List.mem_of_getElem? (i := 47) rfl))) (by decide) (t := (.object "com/example/tideline/tideline/session/FetchSession$Partitions")) (t' := (.object "com/example/tideline/tideline/session/FetchSession$Partitions")) (by decide) (by decide)))
  have F_a1_id_9 := F_a1_id_5.other W9 (Or.inr (slot_ne (Or.inl (hw _ (List.mem_of_getElem? (i := 61) rfl))) (Or.inl (hw _ (List.mem_of_getElem? (i := 47) rfl))) (by decide) (t := .int) (t' := (.object "com/example/tideline/tideline/session/FetchSession$Partitions")) (by decide) (by decide)))
  have F_a1_pending_9 := F_a1_pending_5.other W9 (Or.inr (slot_ne (Or.inl (hw _ (List.mem_of_getElem? (i := 80) rfl))) (Or.inl (hw _ (List.mem_of_getElem? (i := 47) rfl))) (by decide) (t := (.object "com/example/tideline/tideline/session/FetcherSession$Request")) (t' := (.object "com/example/tideline/tideline/session/FetchSession$Partitions")) (by decide) (by decide)))
  have E_a1_9 := E_a1_5.wr W9
  have E_rq_9 := E_rq_5.wr W9
  have F_rq_listed_9 := F_rq_listed_5.other W9 (Or.inl ne1)
  have Zs10 := Nat.le_trans Zs6 (Keep.of_wr W9).1
  have Kk9 := Kk5.wr W9 (Or.inl (List.mem_of_getElem? (i := 0) rfl))
  obtain ⟨fs, hr, hrun, hended, hW, hsame⟩ := X9.leave (v := none) (fun _ => rfl)
  refine ⟨_, _, pre0 _ ?_, hrun, hended, _, _, rfl, ?_, ⟨_, rfl⟩, hW, hsame.mono (by decide) (by decide)⟩
  · show Steps p.tables e below (s₁.setTop (mkF m 0 #[.val (.ref a1), .val (.int p3)] [])) _
    refine XS.aloadN X0.here hx rfl (hb hby d14_0) rfl rfl ?_
    show Steps p.tables e below (s₁.setTop (mkF m 1 #[.val (.ref a1), .val (.int p3)] [(.ref a1)])) _
    refine st1 _ ?_
    show Steps p.tables e below (T1.setTop (mkF m 4 #[.val (.ref a1), .val (.int p3)] [(.int p2)])) _
    refine XS.ifNo X1.here hx rfl (hb hby d14_4) rfl ((if0 _ _).trans (teq hp2).2) ?_
    show Steps p.tables e below (T1.setTop (mkF m 7 #[.val (.ref a1), .val (.int p3)] [])) _
    refine XS.aloadN X1.here hx rfl (hb hby d14_7) rfl rfl ?_
    show Steps p.tables e below (T1.setTop (mkF m 8 #[.val (.ref a1), .val (.int p3)] [(.ref a1)])) _
    refine XS.iloadN X1.here hx rfl (hb hby d14_8) rfl ?_
    show Steps p.tables e below (T1.setTop (mkF m 9 #[.val (.ref a1), .val (.int p3)] [(.int p3), (.ref a1)])) _
    refine st2 _ ?_
    show Steps p.tables e below (T2.setTop (mkF m 12 #[.val (.ref a1), .val (.int p3)] [])) _
    refine XS.aloadN X2.here hx rfl (hb hby d14_12) rfl rfl ?_
    show Steps p.tables e below (T2.setTop (mkF m 13 #[.val (.ref a1), .val (.int p3)] [(.ref a1)])) _
    refine st4 _ ?_
    show Steps p.tables e below (T4.setTop (mkF m 16 #[.val (.ref a1), .val (.int p3)] [(.int p3)])) _
    refine XS.ifYes X4.here hx rfl (pc0 := 16) (pc' := 20) rfl (hb hby d14_16) rfl ((if0 _ _).trans (feq hp3).2) (by decide) (by decide) ?_
    show Steps p.tables e below (T4.setTop (mkF m 20 #[.val (.ref a1), .val (.int p3)] [])) _
    refine XS.aloadN X4.here hx rfl (hb hby d14_20) rfl rfl ?_
    show Steps p.tables e below (T4.setTop (mkF m 21 #[.val (.ref a1), .val (.int p3)] [(.ref a1)])) _
    refine XS.iconst X4.here hx rfl (hb hby d14_21) ?_
    show Steps p.tables e below (T4.setTop (mkF m 22 #[.val (.ref a1), .val (.int p3)] [(.int (1 : Int32)), (.ref a1)])) _
    refine st5 _ ?_
    show Steps p.tables e below (T5.setTop (mkF m 25 #[.val (.ref a1), .val (.int p3)] [])) _
    refine XS.aloadN X5.here hx rfl (hb hby d14_25) rfl rfl ?_
    show Steps p.tables e below (T5.setTop (mkF m 26 #[.val (.ref a1), .val (.int p3)] [(.ref a1)])) _
    refine XS.aloadN X5.here hx rfl (hb hby d14_26) rfl rfl ?_
    show Steps p.tables e below (T5.setTop (mkF m 27 #[.val (.ref a1), .val (.int p3)] [(.ref a1), (.ref a1)])) _
    refine st7 _ ?_
    show Steps p.tables e below (T7.setTop (mkF m 30 #[.val (.ref a1), .val (.int p3)] [(.ref rq), (.ref a1)])) _
    refine st8.trans ?_
    show Steps p.tables e below (T8.setTop (mkF m 33 #[.val (.ref a1), .val (.int p3)] [(.ref x3), (.ref a1)])) _
    refine st9 _ ?_
    show Steps p.tables e below (T9.setTop (mkF m 36 #[.val (.ref a1), .val (.int p3)] [])) _
    exact X9.returnOut hx Bd.returns (hb hby d14_36) hr
  · show Q14a Z a1 p3 p1 p2 x1 x2 hv rq x3 h0 n0 _ T9.heap _
    rw [e9]
    exact ⟨rfl, N9, Kk9, E_a1_9, F_a1_epoch_9, Fw9, F_a1_listing_9, F_a1_forgetting_9, F_a1_id_9, F_a1_pending_9⟩
def Q14b (Z : State) (a1 : Addr) (p3 p1 p2 : Int32) (x1 x2 : Addr) (hv : Value) (rq : Addr) (x3 x4 x5 : Addr) (lo : Nat) (h0 : Heap) (n0 : Nat) (v : Option Value) (h : Heap) (L : List Loc) : Prop := v = none ∧ Fr n0 L ∧ Keep h0 h [a1] ∧ Exa Z h a1 "com/example/tideline/tideline/session/FetcherSession" ∧ Fld Z h a1 "com/example/tideline/tideline/session/FetcherSession" "epoch" "I" (.int (p2 + (1 : Int32))) ∧ Fld Z h a1 "com/example/tideline/tideline/session/FetcherSession" "held" "Lcom/example/tideline/tideline/session/FetchSession$Partitions;" (.ref x5) ∧ Fld Z h a1 "com/example/tideline/tideline/session/FetcherSession" "listing" "Lcom/example/tideline/tideline/session/FetchSession$Partitions;" (.ref x1) ∧ Fld Z h a1 "com/example/tideline/tideline/session/FetcherSession" "forgetting" "Lcom/example/tideline/tideline/session/FetchSession$Partitions;" (.ref x2) ∧ Fld Z h a1 "com/example/tideline/tideline/session/FetcherSession" "id" "I" (.int p1) ∧ Fld Z h a1 "com/example/tideline/tideline/session/FetcherSession" "pending" "Lcom/example/tideline/tideline/session/FetcherSession$Request;" (.ref rq)
set_option maxRecDepth 65536 in
set_option maxHeartbeats 40000000 in
theorem rm14b (l : Launch) (Z : State) (a0 : Array Value) (hw : ∀ d ∈ tables_1, d.before a0 Z = true) (ws : List Jvm.Cond) (a1 : Addr) (p3 p1 p2 : Int32) (x1 x2 : Addr) (hv : Value) (rq : Addr) (x3 x4 x5 : Addr) (lo : Nat) (h0 : Heap) (n0 : Nat) (Z0 : n0 ≤ h0.size) (F_epoch : Fld Z h0 a1 "com/example/tideline/tideline/session/FetcherSession" "epoch" "I" (.int p2)) (F_held : Fld Z h0 a1 "com/example/tideline/tideline/session/FetcherSession" "held" "Lcom/example/tideline/tideline/session/FetchSession$Partitions;" (.ref x5)) (F_listing : Fld Z h0 a1 "com/example/tideline/tideline/session/FetcherSession" "listing" "Lcom/example/tideline/tideline/session/FetchSession$Partitions;" (.ref x1)) (F_forgetting : Fld Z h0 a1 "com/example/tideline/tideline/session/FetcherSession" "forgetting" "Lcom/example/tideline/tideline/session/FetchSession$Partitions;" (.ref x2)) (F_id : Fld Z h0 a1 "com/example/tideline/tideline/session/FetcherSession" "id" "I" (.int p1)) (F_pending : Fld Z h0 a1 "com/example/tideline/tideline/session/FetcherSession" "pending" "Lcom/example/tideline/tideline/session/FetcherSession$Request;" (.ref rq)) (E1 : Exa Z h0 a1 "com/example/tideline/tideline/session/FetcherSession") (g1 : n0 ≤ a1) (hp2 : ¬ p2 = 0) (hp5 : ¬ p2 = (2147483647 : Int32)) (Erq : Exa Z h0 rq "com/example/tideline/tideline/session/FetcherSession$Request") (F2 : Fld Z h0 rq "com/example/tideline/tideline/session/FetcherSession$Request" "listed" "Lcom/example/tideline/tideline/session/FetchSession$Partitions;" (.ref x3)) (F3 : Fld Z h0 rq "com/example/tideline/tideline/session/FetcherSession$Request" "forgotten" "Lcom/example/tideline/tideline/session/FetchSession$Partitions;" (.ref x4)) (ne1 : rq ≠ a1) (P3 : own_part Z h0 lo x3) (P4 : own_part Z h0 lo x4) (hlo : a1 < lo) :
    MetFree l (⟨"com/example/tideline/tideline/session/FetcherSession", "accepted", "(I)V"⟩ : MethodName) (head1 (Jvm.Cond.code (⟨"com/example/tideline/tideline/session/FetcherSession", "accepted", "(I)V"⟩ : MethodName) prog_253_method_5_code 2 none :: ws) ({ frames := 2, cells := 4, slots := 4, locals := 3087 } : Room)) (fun a U => a = #[(.ref a1), (.int p3)] ∧ Z.Warmed39 U.vm ∧ U.heap = h0) (fun _ _ _ _ _ => True) (fun _ U o U' => ∃ v L, o = .returned v ∧ Q14b Z a1 p3 p1 p2 x1 x2 hv rq x3 x4 x5 lo h0 n0 v U'.heap L ∧ FrameEnd U o U' L ({ frames := 2, cells := 4, slots := 4, locals := 3087 } : Room).cells ({ frames := 2, cells := 4, slots := 4, locals := 3087 } : Room).slots) := by
  refine MetFree.of_bodySF (plainFor_of_name pn_14) hisR ?_
  intro p e s m args below meth c s₁ Bd hml0 hP hK
  obtain ⟨rfl, hZ, hh⟩ := hP
  have hx := Bd.exec
  have hby := Bd.bytes
  have hml : c.maxLocals = 2 := hml0
  have hown : s.vm.findClass "com/example/tideline/tideline/session/FetcherSession" = some m.cls := findClass_of_methodNamed Bd.named
  have hnm := (name_of_methodNamed Bd.named Bd.method).1
  have X0 : Stand p l e ({ frames := 2, cells := 4, slots := 4, locals := 3087 } : Room) s m #[(.ref a1), (.int p3)] below meth c s₁ [] 0 0 := Stand.of_body Bd
  have e0 : s₁.heap = h0 := by rw [← hh, Bd.state]; rfl
  have N0 := Fr.nil n0
  have pre0 : ∀ t, Steps p.tables e below (s₁.setTop (mkF m 0 #[.val (.ref a1), .val (.int p3)] [])) t → Steps p.tables e below (s₁.setTop (entryFrame m #[(.ref a1), (.int p3)] 2)) t := fun t k => castTop (ef_14 m a1 p3) k
  have KK0 := Keep.refl h0 [a1]
  have E_x3 := P3.2.1
  have E_x4 := P4.2.1
  obtain ⟨T1, X1, e1, st1⟩ := getF X0 hx hZ hown (host := "") (Or.inl (hw _ (List.mem_of_getElem? (i := 9) rfl))) Via.refl e0 F_epoch (g := (mkF m 1 #[.val (.ref a1), .val (.int p3)] [(.ref a1)])) rfl rfl (hb hby d14_1)
  obtain ⟨T2, X2, e2, st2⟩ := getF X1 hx hZ hown (host := "") (Or.inl (hw _ (List.mem_of_getElem? (i := 9) rfl))) Via.refl e1 F_epoch (g := (mkF m 39 #[.val (.ref a1), .val (.int p3)] [(.ref a1), (.ref a1)])) rfl rfl (hb hby d14_39)
  obtain ⟨_, _, ⟨T3, L3, k3, n3⟩, -, X3, ⟨Lc3, hQ3, l3, y3, z3⟩, st3⟩ := Jvm.LawKit.callS X2 hx (y := (⟨"com/example/tideline/tideline/session/FetchSession", "epochAfter", "(I)I"⟩ : MethodName)) hown (mvT hZ (hw _ (List.mem_of_getElem? (i := 111) rfl))) (mvT hZ (hw _ (List.mem_of_getElem? (i := 112) rfl))) (mvT hZ (hw _ (List.mem_of_getElem? (i := 113) rfl))) (mvT hZ (hw _ (List.mem_of_getElem? (i := 114) rfl))) (by decide) (backOf (W := 1) (rm16 l Z a0 hw [] p2 h0 n0 Z0 hp5) hZ (hw _ (List.mem_of_getElem? (i := 114) rfl)) (hw _ (List.mem_of_getElem? (i := 113) rfl)) (by decide) (by decide)) (g := (mkF m 42 #[.val (.ref a1), .val (.int p3)] [(.int p2), (.ref a1)])) rfl (by rw [hml]; rfl) (argsL := [(.int p2)]) (rest := [(.ref a1)]) (lenOf pd_4 rfl) rfl (by show 2 * 0 + _ ≤ _; exact Nat.le_of_eq rfl) (hb hby d14_42) (fun _ _ => ⟨rfl, e2, (by decide : 0 + 0 ≤ _), (by decide : 0 + 0 ≤ _)⟩)
  dsimp only [Pt.U, Pt.locs, Pt.cells, Pt.slots] at X3 l3 y3 z3 st3 hQ3
  subst l3 y3 z3
  obtain ⟨rfl, N3q, e3q⟩ := hQ3
  have N3 := Fr.app N0 N3q
  obtain ⟨T4, h4, X4, e4, W4, st4⟩ := putF X3 hx hZ hown (host := "") (Or.inl (hw _ (List.mem_of_getElem? (i := 9) rfl))) Via.refl e3q F_epoch E1 (Or.inl (hw _ (List.mem_of_getElem? (i := 10) rfl))) (hw _ (List.mem_of_getElem? (i := 1) rfl)) (ty := .int) (by decide) rfl rfl (g := (mkF m 45 #[.val (.ref a1), .val (.int p3)] [(.int (p2 + (1 : Int32))), (.ref a1)])) rfl rfl (hb hby d14_45)
  have N4 := Fr.snoc X4 N3 g1
  have Fw4 := Fld.same W4 F_epoch
  have F_a1_held_4 := F_held.other W4 (Or.inr (slot_ne (Or.inl (hw _ (List.mem_of_getElem? (i := 47) rfl))) (Or.inl (hw _ (List.mem_of_getElem? (i := 10) rfl))) (by decide) (t := (.object "com/example/tideline/tideline/session/FetchSession$Partitions")) (t' := .int) (by decide) (by decide)))
  have F_a1_listing_4 := F_listing.other W4 (Or.inr (slot_ne (Or.inl (hw _ (List.mem_of_getElem? (i := 49) rfl))) (Or.inl (hw _ (List.mem_of_getElem? (i := 10) rfl))) (by decide) (t := (.object "com/example/tideline/tideline/session/FetchSession$Partitions")) (t' := .int) (by decide) (by decide)))
  have F_a1_forgetting_4 := F_forgetting.other W4 (Or.inr (slot_ne (Or.inl (hw _ (List.mem_of_getElem? (i := 51) rfl))) (Or.inl (hw _ (List.mem_of_getElem? (i := 10) rfl))) (by decide) (t := (.object "com/example/tideline/tideline/session/FetchSession$Partitions")) (t' := .int) (by decide) (by decide)))
  have F_a1_id_4 := F_id.other W4 (Or.inr (slot_ne (Or.inl (hw _ (List.mem_of_getElem? (i := 61) rfl))) (Or.inl (hw _ (List.mem_of_getElem? (i := 10) rfl))) (by decide) (t := .int) (t' := .int) (by decide) (by decide)))
  have F_a1_pending_4 := F_pending.other W4 (Or.inr (slot_ne (Or.inl (hw _ (List.mem_of_getElem? (i := 80) rfl))) (Or.inl (hw _ (List.mem_of_getElem? (i := 10) rfl))) (by decide) (t := (.object "com/example/tideline/tideline/session/FetcherSession$Request")) (t' := .int) (by decide) (by decide)))
  have E_a1_4 := E1.wr W4
  have E_rq_4 := Erq.wr W4
  have F_rq_listed_4 := F2.other W4 (Or.inl ne1)
  have F_rq_forgotten_4 := F3.other W4 (Or.inl ne1)
  have P_x3_4 := P3.wr W4 hlo
  have P_x4_4 := P4.wr W4 hlo
  have E_x3_4 := E_x3.wr W4
  have E_x4_4 := E_x4.wr W4
  have Zs5 := Nat.le_trans Z0 (Keep.of_wr W4).1
  have Kk4 := KK0.wr W4 (Or.inl (List.mem_of_getElem? (i := 0) rfl))
  obtain ⟨T6, X6, e6, st6⟩ := getF X4 hx hZ hown (host := "") (Or.inl (hw _ (List.mem_of_getElem? (i := 79) rfl))) Via.refl e4 F_a1_pending_4 (g := (mkF m 49 #[.val (.ref a1), .val (.int p3)] [(.ref a1)])) rfl rfl (hb hby d14_49)
  obtain ⟨cq7, kq7, q7a, q7b, q7c⟩ := isOf hZ e6 E_rq_4
  obtain ⟨_, _, ⟨T7, L7, k7, n7⟩, -, X7, ⟨Lc7, hQ7, l7, y7, z7⟩, st7⟩ := X6.virtualBack hx (y := (⟨"com/example/tideline/tideline/session/FetcherSession$Request", "listed", "()Lcom/example/tideline/tideline/session/FetchSession$Partitions;"⟩ : MethodName)) (z := (⟨"com/example/tideline/tideline/session/FetcherSession$Request", "listed", "()Lcom/example/tideline/tideline/session/FetchSession$Partitions;"⟩ : MethodName)) hown (mvT hZ (hw _ (List.mem_of_getElem? (i := 106) rfl))) (mvT hZ (hw _ (List.mem_of_getElem? (i := 107) rfl))) (notFace_of_selects (args := #[]) (mvT hZ (hw _ (List.mem_of_getElem? (i := 109) rfl)))) (mvT hZ (hw _ (List.mem_of_getElem? (i := 109) rfl))) (mvT hZ (hw _ (List.mem_of_getElem? (i := 108) rfl))) (by decide) (backOf (W := 0) (rm15 l Z a0 hw [] rq x3 h4 n0 Zs5 F_rq_listed_4) hZ (hw _ (List.mem_of_getElem? (i := 110) rfl)) (hw _ (List.mem_of_getElem? (i := 59) rfl)) (by decide) (by decide)) q7a q7c (g := (mkF m 52 #[.val (.ref a1), .val (.int p3)] [(.ref rq)])) rfl (by rw [hml]; rfl) (Steps.refl _) (argsL := []) (rest := []) (lenOf pd_3 rfl) rfl (by show 2 * 0 + _ ≤ _; exact Nat.le_of_eq rfl) (hb hby d14_52) (fun _ _ => ⟨rfl, e6, (by decide : 0 + 0 ≤ _), (by decide : 0 + 0 ≤ _)⟩)
  dsimp only [Pt.U, Pt.locs, Pt.cells, Pt.slots] at X7 l7 y7 z7 st7 hQ7
  subst l7 y7 z7
  obtain ⟨rfl, N7q, e7q⟩ := hQ7
  have N7 := Fr.app N4 N7q
  obtain ⟨T8, X8, e8, st8⟩ := getF X7 hx hZ hown (host := "") (Or.inl (hw _ (List.mem_of_getElem? (i := 46) rfl))) Via.refl e7q F_a1_held_4 (g := (mkF m 56 #[.val (.ref a1), .val (.int p3)] [(.ref a1), (.ref x3)])) rfl rfl (hb hby d14_56)
  obtain ⟨_, _, ⟨T9, L9, k9, n9⟩, -, X9, ⟨Lc9, hQ9, l9, y9, z9⟩, st9⟩ := Jvm.LawKit.callS X8 hx (y := (⟨"java/util/Objects", "requireNonNull", "(Ljava/lang/Object;)Ljava/lang/Object;"⟩ : MethodName)) hown (mvT hZ (hw _ (List.mem_of_getElem? (i := 116) rfl))) (mvT hZ (hw _ (List.mem_of_getElem? (i := 117) rfl))) (mvT hZ (hw _ (List.mem_of_getElem? (i := 118) rfl))) (mvT hZ (hw _ (List.mem_of_getElem? (i := 119) rfl))) (by decide) (backOf (W := 2) (rm17 l Z a0 hw [] x5 h4 n0 Zs5) hZ (hw _ (List.mem_of_getElem? (i := 119) rfl)) (hw _ (List.mem_of_getElem? (i := 118) rfl)) (by decide) (by decide)) (g := (mkF m 60 #[.val (.ref a1), .val (.int p3)] [(.ref x5), (.ref x5), (.ref x3)])) rfl (by rw [hml]; rfl) (argsL := [(.ref x5)]) (rest := [(.ref x5), (.ref x3)]) (lenOf pd_5 rfl) rfl (by show 2 * 0 + _ ≤ _; exact Nat.le_of_eq rfl) (hb hby d14_60) (fun _ _ => ⟨rfl, e8, (by decide : 0 + 0 ≤ _), (by decide : 0 + 0 ≤ _)⟩)
  dsimp only [Pt.U, Pt.locs, Pt.cells, Pt.slots] at X9 l9 y9 z9 st9 hQ9
  subst l9 y9 z9
  obtain ⟨rfl, N9q, e9q⟩ := hQ9
  have N9 := Fr.app N7 N9q
  obtain ⟨T10, h10, X10, e10, E10, st10⟩ := own_lam X9 hx hZ Bd.named (hw _ (List.mem_of_getElem? (i := 120) rfl)) (fi := 15) (by decide +kernel) (hw _ (List.mem_of_getElem? (i := 123) rfl)) e9q (g := (mkF m 64 #[.val (.ref a1), .val (.int p3)] [(.ref x5), (.ref x3)])) rfl rfl (by rw [hml]; rfl) (hb hby d14_64) (a := x5) (rest := [(.ref x3)]) rfl ⟨rfl, rfl⟩ rfl (Nat.le_of_ble_eq_true rfl) (by decide) (by decide)
  obtain ⟨b10, g10⟩ : ∃ z, z = h4.size := ⟨_, rfl⟩
  rw [← g10] at st10
  have ne_a1_b10 : a1 ≠ b10 := Nat.ne_of_lt (Nat.lt_of_lt_of_le Fw4.lt (Nat.le_of_eq g10.symm))
  have ne_rq_b10 : rq ≠ b10 := Nat.ne_of_lt (Nat.lt_of_lt_of_le E_rq_4.lt (Nat.le_of_eq g10.symm))
  have ne_x3_b10 : x3 ≠ b10 := Nat.ne_of_lt (Nat.lt_of_lt_of_le E_x3_4.lt (Nat.le_of_eq g10.symm))
  have ne_x4_b10 : x4 ≠ b10 := Nat.ne_of_lt (Nat.lt_of_lt_of_le E_x4_4.lt (Nat.le_of_eq g10.symm))
  have g_b10 : n0 ≤ b10 := Nat.le_trans Zs5 (Nat.le_of_eq g10.symm)
  have sz_b10 : h0.size ≤ b10 := Nat.le_trans Kk4.1 (Nat.le_of_eq g10.symm)
  have F_a1_epoch_10 := Fw4.ext E10
  have F_a1_held_10 := F_a1_held_4.ext E10
  have F_a1_listing_10 := F_a1_listing_4.ext E10
  have F_a1_forgetting_10 := F_a1_forgetting_4.ext E10
  have F_a1_id_10 := F_a1_id_4.ext E10
  have F_a1_pending_10 := F_a1_pending_4.ext E10
  have E_a1_10 := E_a1_4.ext E10
  have E_rq_10 := E_rq_4.ext E10
  have F_rq_listed_10 := F_rq_listed_4.ext E10
  have F_rq_forgotten_10 := F_rq_forgotten_4.ext E10
  have P_x3_10 := P_x3_4.ext E10
  have P_x4_10 := P_x4_4.ext E10
  have E_x3_10 := E_x3_4.ext E10
  have E_x4_10 := E_x4_4.ext E10
  have Zs11 := Nat.le_trans Zs5 E10.1
  have Kk10 := Kk4.ext E10
  obtain ⟨cq12, kq12, q12a, q12b, q12c⟩ := isOf hZ e10 E_x3_10
  obtain ⟨_, _, ⟨T12, L12, k12, n12⟩, -, X12, ⟨Lc12, hQ12, l12, y12, z12⟩, st12⟩ := X10.virtualBack hx (y := (⟨"com/example/tideline/tideline/session/FetchSession$Partitions", "forEach", "(Lcom/example/tideline/tideline/session/FetchSession$Partitions$Each;)V"⟩ : MethodName)) (z := (⟨"com/example/tideline/tideline/session/FetchSession$Partitions", "forEach", "(Lcom/example/tideline/tideline/session/FetchSession$Partitions$Each;)V"⟩ : MethodName)) hown (mvT hZ (hw _ (List.mem_of_getElem? (i := 124) rfl))) (mvT hZ (hw _ (List.mem_of_getElem? (i := 125) rfl))) (notFace_of_selects (args := #[]) (mvT hZ (hw _ (List.mem_of_getElem? (i := 127) rfl)))) (mvT hZ (hw _ (List.mem_of_getElem? (i := 127) rfl))) (mvT hZ (hw _ (List.mem_of_getElem? (i := 126) rfl))) (by decide) (backOf (W := 0) (rm18 l Z a0 hw [] x3 b10 lo h10 n0 Zs11 P_x3_10) hZ (hw _ (List.mem_of_getElem? (i := 128) rfl)) (hw _ (List.mem_of_getElem? (i := 13) rfl)) (by decide) (by decide)) q12a q12c (g := (mkF m 69 #[.val (.ref a1), .val (.int p3)] [(.ref b10), (.ref x3)])) rfl (by rw [hml]; rfl) (Steps.refl _) (argsL := [(.ref b10)]) (rest := []) (lenOf pd_6 rfl) rfl (by show 2 * 0 + _ ≤ _; exact Nat.le_of_eq rfl) (hb hby d14_69) (fun _ _ => ⟨rfl, e10, (by decide : 1 + 1 ≤ _), (by decide : 1 + 1 ≤ _)⟩)
  dsimp only [Pt.U, Pt.locs, Pt.cells, Pt.slots] at X12 l12 y12 z12 st12 hQ12
  subst l12 y12 z12
  obtain ⟨rfl, N12q, K12q⟩ := hQ12
  have N12 := Fr.app N9 N12q
  have F_a1_epoch_12 := F_a1_epoch_10.keep K12q nin0
  have F_a1_held_12 := F_a1_held_10.keep K12q nin0
  have F_a1_listing_12 := F_a1_listing_10.keep K12q nin0
  have F_a1_forgetting_12 := F_a1_forgetting_10.keep K12q nin0
  have F_a1_id_12 := F_a1_id_10.keep K12q nin0
  have F_a1_pending_12 := F_a1_pending_10.keep K12q nin0
  have E_a1_12 := E_a1_10.keep K12q
  have E_rq_12 := E_rq_10.keep K12q
  have F_rq_listed_12 := F_rq_listed_10.keep K12q nin0
  have F_rq_forgotten_12 := F_rq_forgotten_10.keep K12q nin0
  have P_x3_12 := P_x3_10.keep K12q all0
  have P_x4_12 := P_x4_10.keep K12q all0
  have E_x3_12 := E_x3_10.keep K12q
  have E_x4_12 := E_x4_10.keep K12q
  have Zs13 := Nat.le_trans Zs11 K12q.1
  have Kk12 := Kk10.trans K12q all0
  obtain ⟨T14, X14, e14, st14⟩ := getF X12 hx hZ hown (host := "") (Or.inl (hw _ (List.mem_of_getElem? (i := 79) rfl))) Via.refl rfl F_a1_pending_12 (g := (mkF m 73 #[.val (.ref a1), .val (.int p3)] [(.ref a1)])) rfl rfl (hb hby d14_73)
  obtain ⟨cq15, kq15, q15a, q15b, q15c⟩ := isOf hZ e14 E_rq_12
  obtain ⟨_, _, ⟨T15, L15, k15, n15⟩, -, X15, ⟨Lc15, hQ15, l15, y15, z15⟩, st15⟩ := X14.virtualBack hx (y := (⟨"com/example/tideline/tideline/session/FetcherSession$Request", "forgotten", "()Lcom/example/tideline/tideline/session/FetchSession$Partitions;"⟩ : MethodName)) (z := (⟨"com/example/tideline/tideline/session/FetcherSession$Request", "forgotten", "()Lcom/example/tideline/tideline/session/FetchSession$Partitions;"⟩ : MethodName)) hown (mvT hZ (hw _ (List.mem_of_getElem? (i := 145) rfl))) (mvT hZ (hw _ (List.mem_of_getElem? (i := 146) rfl))) (notFace_of_selects (args := #[]) (mvT hZ (hw _ (List.mem_of_getElem? (i := 148) rfl)))) (mvT hZ (hw _ (List.mem_of_getElem? (i := 148) rfl))) (mvT hZ (hw _ (List.mem_of_getElem? (i := 147) rfl))) (by decide) (backOf (W := 0) (rm20 l Z a0 hw [] rq x4 T12.heap n0 Zs13 F_rq_forgotten_12) hZ (hw _ (List.mem_of_getElem? (i := 149) rfl)) (hw _ (List.mem_of_getElem? (i := 59) rfl)) (by decide) (by decide)) q15a q15c (g := (mkF m 76 #[.val (.ref a1), .val (.int p3)] [(.ref rq)])) rfl (by rw [hml]; rfl) (Steps.refl _) (argsL := []) (rest := []) (lenOf pd_3 rfl) rfl (by show 2 * 0 + _ ≤ _; exact Nat.le_of_eq rfl) (hb hby d14_76) (fun _ _ => ⟨rfl, e14, (by decide : 2 + 0 ≤ _), (by decide : 2 + 0 ≤ _)⟩)
  dsimp only [Pt.U, Pt.locs, Pt.cells, Pt.slots] at X15 l15 y15 z15 st15 hQ15
  subst l15 y15 z15
  obtain ⟨rfl, N15q, e15q⟩ := hQ15
  have N15 := Fr.app N12 N15q
  obtain ⟨T16, h16, X16, e16, E16, st16⟩ := own_lam X15 hx hZ Bd.named (hw _ (List.mem_of_getElem? (i := 150) rfl)) (fi := 15) (by decide +kernel) (hw _ (List.mem_of_getElem? (i := 123) rfl)) e15q (g := (mkF m 80 #[.val (.ref a1), .val (.int p3)] [(.ref a1), (.ref x4)])) rfl rfl (by rw [hml]; rfl) (hb hby d14_80) (a := a1) (rest := [(.ref x4)]) rfl ⟨rfl, rfl⟩ rfl (Nat.le_of_ble_eq_true rfl) (by decide) (by decide)
  obtain ⟨b16, g16⟩ : ∃ z, z = T12.heap.size := ⟨_, rfl⟩
  rw [← g16] at st16
  have ne_a1_b16 : a1 ≠ b16 := Nat.ne_of_lt (Nat.lt_of_lt_of_le F_a1_epoch_12.lt (Nat.le_of_eq g16.symm))
  have ne_rq_b16 : rq ≠ b16 := Nat.ne_of_lt (Nat.lt_of_lt_of_le E_rq_12.lt (Nat.le_of_eq g16.symm))
  have ne_x3_b16 : x3 ≠ b16 := Nat.ne_of_lt (Nat.lt_of_lt_of_le E_x3_12.lt (Nat.le_of_eq g16.symm))
  have ne_x4_b16 : x4 ≠ b16 := Nat.ne_of_lt (Nat.lt_of_lt_of_le E_x4_12.lt (Nat.le_of_eq g16.symm))
  have g_b16 : n0 ≤ b16 := Nat.le_trans Zs13 (Nat.le_of_eq g16.symm)
  have sz_b16 : h0.size ≤ b16 := Nat.le_trans Kk12.1 (Nat.le_of_eq g16.symm)
  have F_a1_epoch_16 := F_a1_epoch_12.ext E16
  have F_a1_held_16 := F_a1_held_12.ext E16
  have F_a1_listing_16 := F_a1_listing_12.ext E16
  have F_a1_forgetting_16 := F_a1_forgetting_12.ext E16
  have F_a1_id_16 := F_a1_id_12.ext E16
  have F_a1_pending_16 := F_a1_pending_12.ext E16
  have E_a1_16 := E_a1_12.ext E16
  have E_rq_16 := E_rq_12.ext E16
  have F_rq_listed_16 := F_rq_listed_12.ext E16
  have F_rq_forgotten_16 := F_rq_forgotten_12.ext E16
  have P_x3_16 := P_x3_12.ext E16
  have P_x4_16 := P_x4_12.ext E16
  have E_x3_16 := E_x3_12.ext E16
  have E_x4_16 := E_x4_12.ext E16
  have Zs17 := Nat.le_trans Zs13 E16.1
  have Kk16 := Kk12.ext E16
  obtain ⟨cq18, kq18, q18a, q18b, q18c⟩ := isOf hZ e16 E_x4_16
  obtain ⟨_, _, ⟨T18, L18, k18, n18⟩, -, X18, ⟨Lc18, hQ18, l18, y18, z18⟩, st18⟩ := X16.virtualBack hx (y := (⟨"com/example/tideline/tideline/session/FetchSession$Partitions", "forEach", "(Lcom/example/tideline/tideline/session/FetchSession$Partitions$Each;)V"⟩ : MethodName)) (z := (⟨"com/example/tideline/tideline/session/FetchSession$Partitions", "forEach", "(Lcom/example/tideline/tideline/session/FetchSession$Partitions$Each;)V"⟩ : MethodName)) hown (mvT hZ (hw _ (List.mem_of_getElem? (i := 124) rfl))) (mvT hZ (hw _ (List.mem_of_getElem? (i := 125) rfl))) (notFace_of_selects (args := #[]) (mvT hZ (hw _ (List.mem_of_getElem? (i := 127) rfl)))) (mvT hZ (hw _ (List.mem_of_getElem? (i := 127) rfl))) (mvT hZ (hw _ (List.mem_of_getElem? (i := 126) rfl))) (by decide) (backOf (W := 0) (rm18 l Z a0 hw [] x4 b16 lo h16 n0 Zs17 P_x4_16) hZ (hw _ (List.mem_of_getElem? (i := 128) rfl)) (hw _ (List.mem_of_getElem? (i := 13) rfl)) (by decide) (by decide)) q18a q18c (g := (mkF m 85 #[.val (.ref a1), .val (.int p3)] [(.ref b16), (.ref x4)])) rfl (by rw [hml]; rfl) (Steps.refl _) (argsL := [(.ref b16)]) (rest := []) (lenOf pd_6 rfl) rfl (by show 2 * 0 + _ ≤ _; exact Nat.le_of_eq rfl) (hb hby d14_85) (fun _ _ => ⟨rfl, e16, (by decide : 3 + 1 ≤ _), (by decide : 3 + 1 ≤ _)⟩)
  dsimp only [Pt.U, Pt.locs, Pt.cells, Pt.slots] at X18 l18 y18 z18 st18 hQ18
  subst l18 y18 z18
  obtain ⟨rfl, N18q, K18q⟩ := hQ18
  have N18 := Fr.app N15 N18q
  have F_a1_epoch_18 := F_a1_epoch_16.keep K18q nin0
  have F_a1_held_18 := F_a1_held_16.keep K18q nin0
  have F_a1_listing_18 := F_a1_listing_16.keep K18q nin0
  have F_a1_forgetting_18 := F_a1_forgetting_16.keep K18q nin0
  have F_a1_id_18 := F_a1_id_16.keep K18q nin0
  have F_a1_pending_18 := F_a1_pending_16.keep K18q nin0
  have E_a1_18 := E_a1_16.keep K18q
  have E_rq_18 := E_rq_16.keep K18q
  have F_rq_listed_18 := F_rq_listed_16.keep K18q nin0
  have F_rq_forgotten_18 := F_rq_forgotten_16.keep K18q nin0
  have P_x3_18 := P_x3_16.keep K18q all0
  have P_x4_18 := P_x4_16.keep K18q all0
  have E_x3_18 := E_x3_16.keep K18q
  have E_x4_18 := E_x4_16.keep K18q
  have Zs19 := Nat.le_trans Zs17 K18q.1
  have Kk18 := Kk16.trans K18q all0
  obtain ⟨fs, hr, hrun, hended, hW, hsame⟩ := X18.leave (v := none) (fun _ => rfl)
  refine ⟨_, _, pre0 _ ?_, hrun, hended, _, _, rfl, ?_, ⟨_, rfl⟩, hW, hsame.mono (by decide) (by decide)⟩
  · show Steps p.tables e below (s₁.setTop (mkF m 0 #[.val (.ref a1), .val (.int p3)] [])) _
    refine XS.aloadN X0.here hx rfl (hb hby d14_0) rfl rfl ?_
    show Steps p.tables e below (s₁.setTop (mkF m 1 #[.val (.ref a1), .val (.int p3)] [(.ref a1)])) _
    refine st1 _ ?_
    show Steps p.tables e below (T1.setTop (mkF m 4 #[.val (.ref a1), .val (.int p3)] [(.int p2)])) _
    refine XS.ifYes X1.here hx rfl (pc0 := 4) (pc' := 37) rfl (hb hby d14_4) rfl ((if0 _ _).trans (feq hp2).2) (by decide) (by decide) ?_
    show Steps p.tables e below (T1.setTop (mkF m 37 #[.val (.ref a1), .val (.int p3)] [])) _
    refine XS.aloadN X1.here hx rfl (hb hby d14_37) rfl rfl ?_
    show Steps p.tables e below (T1.setTop (mkF m 38 #[.val (.ref a1), .val (.int p3)] [(.ref a1)])) _
    refine XS.aloadN X1.here hx rfl (hb hby d14_38) rfl rfl ?_
    show Steps p.tables e below (T1.setTop (mkF m 39 #[.val (.ref a1), .val (.int p3)] [(.ref a1), (.ref a1)])) _
    refine st2 _ ?_
    show Steps p.tables e below (T2.setTop (mkF m 42 #[.val (.ref a1), .val (.int p3)] [(.int p2), (.ref a1)])) _
    refine st3 _ ?_
    show Steps p.tables e below (T3.setTop (mkF m 45 #[.val (.ref a1), .val (.int p3)] [(.int (p2 + (1 : Int32))), (.ref a1)])) _
    refine st4 _ ?_
    show Steps p.tables e below (T4.setTop (mkF m 48 #[.val (.ref a1), .val (.int p3)] [])) _
    refine XS.aloadN X4.here hx rfl (hb hby d14_48) rfl rfl ?_
    show Steps p.tables e below (T4.setTop (mkF m 49 #[.val (.ref a1), .val (.int p3)] [(.ref a1)])) _
    refine st6 _ ?_
    show Steps p.tables e below (T6.setTop (mkF m 52 #[.val (.ref a1), .val (.int p3)] [(.ref rq)])) _
    refine st7.trans ?_
    show Steps p.tables e below (T7.setTop (mkF m 55 #[.val (.ref a1), .val (.int p3)] [(.ref x3)])) _
    refine XS.aloadN X7.here hx rfl (hb hby d14_55) rfl rfl ?_
    show Steps p.tables e below (T7.setTop (mkF m 56 #[.val (.ref a1), .val (.int p3)] [(.ref a1), (.ref x3)])) _
    refine st8 _ ?_
    show Steps p.tables e below (T8.setTop (mkF m 59 #[.val (.ref a1), .val (.int p3)] [(.ref x5), (.ref x3)])) _
    refine XS.dup X8.here hx rfl (hb hby d14_59) rfl rfl ?_
    show Steps p.tables e below (T8.setTop (mkF m 60 #[.val (.ref a1), .val (.int p3)] [(.ref x5), (.ref x5), (.ref x3)])) _
    refine st9 _ ?_
    show Steps p.tables e below (T9.setTop (mkF m 63 #[.val (.ref a1), .val (.int p3)] [(.ref x5), (.ref x5), (.ref x3)])) _
    refine XS.pop X9.here hx rfl (hb hby d14_63) rfl rfl ?_
    show Steps p.tables e below (T9.setTop (mkF m 64 #[.val (.ref a1), .val (.int p3)] [(.ref x5), (.ref x3)])) _
    refine st10 _ ?_
    show Steps p.tables e below (T10.setTop (mkF m 69 #[.val (.ref a1), .val (.int p3)] [(.ref b10), (.ref x3)])) _
    refine st12.trans ?_
    show Steps p.tables e below (T12.setTop (mkF m 72 #[.val (.ref a1), .val (.int p3)] [])) _
    refine XS.aloadN X12.here hx rfl (hb hby d14_72) rfl rfl ?_
    show Steps p.tables e below (T12.setTop (mkF m 73 #[.val (.ref a1), .val (.int p3)] [(.ref a1)])) _
    refine st14 _ ?_
    show Steps p.tables e below (T14.setTop (mkF m 76 #[.val (.ref a1), .val (.int p3)] [(.ref rq)])) _
    refine st15.trans ?_
    show Steps p.tables e below (T15.setTop (mkF m 79 #[.val (.ref a1), .val (.int p3)] [(.ref x4)])) _
    refine XS.aloadN X15.here hx rfl (hb hby d14_79) rfl rfl ?_
    show Steps p.tables e below (T15.setTop (mkF m 80 #[.val (.ref a1), .val (.int p3)] [(.ref a1), (.ref x4)])) _
    refine st16 _ ?_
    show Steps p.tables e below (T16.setTop (mkF m 85 #[.val (.ref a1), .val (.int p3)] [(.ref b16), (.ref x4)])) _
    refine st18.trans ?_
    show Steps p.tables e below (T18.setTop (mkF m 88 #[.val (.ref a1), .val (.int p3)] [])) _
    exact X18.returnOut hx Bd.returns (hb hby d14_88) hr
  · show Q14b Z a1 p3 p1 p2 x1 x2 hv rq x3 x4 x5 lo h0 n0 _ T18.heap _
    exact ⟨rfl, N18, Kk18, E_a1_18, F_a1_epoch_18, F_a1_held_18, F_a1_listing_18, F_a1_forgetting_18, F_a1_id_18, F_a1_pending_18⟩
def Q0 (Z : State) (p0 p1 p2 : Int32) (h0 : Heap) (n0 : Nat) (v : Option Value) (h : Heap) (L : List Loc) : Prop := v = some (.int 1) ∧ Fr n0 L
set_option maxRecDepth 65536 in
set_option maxHeartbeats 40000000 in
theorem rm0 (l : Launch) (Z : State) (a0 : Array Value) (hw : ∀ d ∈ tables_1, d.before a0 Z = true) (ws : List Jvm.Cond) (p0 p1 p2 : Int32) (h0 : Heap) (n0 : Nat) (Z0 : n0 ≤ h0.size) :
    MetFree l x (head1 (Jvm.Cond.code x code maxLocals ret :: ws) room_1) (fun a U => a = #[(.int p0), (.int p1), (.int p2)] ∧ Z.Warmed39 U.vm ∧ U.heap = h0) (fun _ _ _ _ _ => True) (fun _ U o U' => ∃ v L, o = .returned v ∧ Q0 Z p0 p1 p2 h0 n0 v U'.heap L ∧ FrameEnd U o U' L room_1.cells room_1.slots) := by
  refine MetFree.of_bodySF (plainFor_of_name pn_0) hisR ?_
  intro p e s m args below meth c s₁ Bd hml0 hP hK
  obtain ⟨rfl, hZ, hh⟩ := hP
  have hx := Bd.exec
  have hby := Bd.bytes
  have hml : c.maxLocals = 15 := hml0
  have hown : s.vm.findClass "com/example/tideline/tideline/session/FetcherSessionStartOverPinLaw" = some m.cls := findClass_of_methodNamed Bd.named
  have hnm := (name_of_methodNamed Bd.named Bd.method).1
  have X0 : Stand p l e room_1 s m #[(.int p0), (.int p1), (.int p2)] below meth c s₁ [] 0 0 := Stand.of_body Bd
  have e0 : s₁.heap = h0 := by rw [← hh, Bd.state]; rfl
  have N0 := Fr.nil n0
  have pre0 : ∀ t, Steps p.tables e below (s₁.setTop (mkF m 0 #[.val (.int p0), .val (.int p1), .val (.int p2), .unset, .unset, .unset, .unset, .unset, .unset, .unset, .unset, .unset, .unset, .unset, .unset] [])) t → Steps p.tables e below (s₁.setTop (entryFrame m #[(.int p0), (.int p1), (.int p2)] maxLocals)) t := fun t k => castTop (ef_0 m p0 p1 p2) k
  obtain ⟨op, hb_op, pre1⟩ : ∃ (op : Int32), ((op = 1 ∧ ¬ (p2 &&& (1 : Int32)) = 0) ∨ (op = 0 ∧ (p2 &&& (1 : Int32)) = 0)) ∧ ∀ t, Steps p.tables e below (s₁.setTop (mkF m 11 #[.val (.int p0), .val (.int p1), .val (.int p2), .unset, .unset, .unset, .unset, .unset, .unset, .unset, .unset, .unset, .unset, .unset, .unset] [(.int op)])) t → Steps p.tables e below (s₁.setTop (entryFrame m #[(.int p0), (.int p1), (.int p2)] maxLocals)) t := by
    by_cases c3 : (p2 &&& (1 : Int32)) = 0
    · refine ⟨((0 : Int32)), Or.inr ⟨rfl, c3⟩, fun t k => pre0 t ?_⟩
      show Steps p.tables e below (s₁.setTop (mkF m 0 #[.val (.int p0), .val (.int p1), .val (.int p2), .unset, .unset, .unset, .unset, .unset, .unset, .unset, .unset, .unset, .unset, .unset, .unset] [])) _
      refine XS.iloadN X0.here hx rfl (hb hby at_0) rfl ?_
      show Steps p.tables e below (s₁.setTop (mkF m 1 #[.val (.int p0), .val (.int p1), .val (.int p2), .unset, .unset, .unset, .unset, .unset, .unset, .unset, .unset, .unset, .unset, .unset, .unset] [(.int p2)])) _
      refine XS.iconst X0.here hx rfl (hb hby at_1) ?_
      show Steps p.tables e below (s₁.setTop (mkF m 2 #[.val (.int p0), .val (.int p1), .val (.int p2), .unset, .unset, .unset, .unset, .unset, .unset, .unset, .unset, .unset, .unset, .unset, .unset] [(.int (1 : Int32)), (.int p2)])) _
      refine XS.iand X0.here hx rfl (hb hby at_2) rfl ?_
      show Steps p.tables e below (s₁.setTop (mkF m 3 #[.val (.int p0), .val (.int p1), .val (.int p2), .unset, .unset, .unset, .unset, .unset, .unset, .unset, .unset, .unset, .unset, .unset, .unset] [(.int (p2 &&& (1 : Int32)))])) _
      refine XS.ifYes X0.here hx rfl (pc0 := 3) (pc' := 10) rfl (hb hby at_3) rfl ((if0 _ _).trans (teq c3).1) (by decide) (by decide) ?_
      show Steps p.tables e below (s₁.setTop (mkF m 10 #[.val (.int p0), .val (.int p1), .val (.int p2), .unset, .unset, .unset, .unset, .unset, .unset, .unset, .unset, .unset, .unset, .unset, .unset] [])) _
      refine XS.iconst X0.here hx rfl (hb hby at_10) ?_
      exact k
    · refine ⟨((1 : Int32)), Or.inl ⟨rfl, c3⟩, fun t k => pre0 t ?_⟩
      show Steps p.tables e below (s₁.setTop (mkF m 0 #[.val (.int p0), .val (.int p1), .val (.int p2), .unset, .unset, .unset, .unset, .unset, .unset, .unset, .unset, .unset, .unset, .unset, .unset] [])) _
      refine XS.iloadN X0.here hx rfl (hb hby at_0) rfl ?_
      show Steps p.tables e below (s₁.setTop (mkF m 1 #[.val (.int p0), .val (.int p1), .val (.int p2), .unset, .unset, .unset, .unset, .unset, .unset, .unset, .unset, .unset, .unset, .unset, .unset] [(.int p2)])) _
      refine XS.iconst X0.here hx rfl (hb hby at_1) ?_
      show Steps p.tables e below (s₁.setTop (mkF m 2 #[.val (.int p0), .val (.int p1), .val (.int p2), .unset, .unset, .unset, .unset, .unset, .unset, .unset, .unset, .unset, .unset, .unset, .unset] [(.int (1 : Int32)), (.int p2)])) _
      refine XS.iand X0.here hx rfl (hb hby at_2) rfl ?_
      show Steps p.tables e below (s₁.setTop (mkF m 3 #[.val (.int p0), .val (.int p1), .val (.int p2), .unset, .unset, .unset, .unset, .unset, .unset, .unset, .unset, .unset, .unset, .unset, .unset] [(.int (p2 &&& (1 : Int32)))])) _
      refine XS.ifNo X0.here hx rfl (hb hby at_3) rfl ((if0 _ _).trans (feq c3).1) ?_
      show Steps p.tables e below (s₁.setTop (mkF m 6 #[.val (.int p0), .val (.int p1), .val (.int p2), .unset, .unset, .unset, .unset, .unset, .unset, .unset, .unset, .unset, .unset, .unset, .unset] [])) _
      refine XS.iconst X0.here hx rfl (hb hby at_6) ?_
      show Steps p.tables e below (s₁.setTop (mkF m 7 #[.val (.int p0), .val (.int p1), .val (.int p2), .unset, .unset, .unset, .unset, .unset, .unset, .unset, .unset, .unset, .unset, .unset, .unset] [(.int (1 : Int32))])) _
      refine XS.goto X0.here hx rfl (pc0 := 7) (pc' := 11) rfl (hb hby at_7) (by decide) (by decide) ?_
      exact k
  have pre2 : ∀ t, Steps p.tables e below (s₁.setTop (mkF m 12 #[.val (.int p0), .val (.int p1), .val (.int p2), .val (.int op), .unset, .unset, .unset, .unset, .unset, .unset, .unset, .unset, .unset, .unset, .unset] [])) t → Steps p.tables e below (s₁.setTop (entryFrame m #[(.int p0), (.int p1), (.int p2)] maxLocals)) t := by
    intro t k
    refine pre1 t ?_
    show Steps p.tables e below (s₁.setTop (mkF m 11 #[.val (.int p0), .val (.int p1), .val (.int p2), .unset, .unset, .unset, .unset, .unset, .unset, .unset, .unset, .unset, .unset, .unset, .unset] [(.int op)])) _
    refine XS.istoreN X0.here hx rfl (hb hby at_11) rfl (l' := #[.val (.int p0), .val (.int p1), .val (.int p2), .val (.int op), .unset, .unset, .unset, .unset, .unset, .unset, .unset, .unset, .unset, .unset, .unset]) rfl ?_
    exact k
  obtain ⟨mo, hb_mo, pre3⟩ : ∃ (mo : Int32), ((mo = 1 ∧ ¬ (p2 &&& (8 : Int32)) = 0) ∨ (mo = 0 ∧ (p2 &&& (8 : Int32)) = 0)) ∧ ∀ t, Steps p.tables e below (s₁.setTop (mkF m 24 #[.val (.int p0), .val (.int p1), .val (.int p2), .val (.int op), .unset, .unset, .unset, .unset, .unset, .unset, .unset, .unset, .unset, .unset, .unset] [(.int mo)])) t → Steps p.tables e below (s₁.setTop (entryFrame m #[(.int p0), (.int p1), (.int p2)] maxLocals)) t := by
    by_cases c16 : (p2 &&& (8 : Int32)) = 0
    · refine ⟨((0 : Int32)), Or.inr ⟨rfl, c16⟩, fun t k => pre2 t ?_⟩
      show Steps p.tables e below (s₁.setTop (mkF m 12 #[.val (.int p0), .val (.int p1), .val (.int p2), .val (.int op), .unset, .unset, .unset, .unset, .unset, .unset, .unset, .unset, .unset, .unset, .unset] [])) _
      refine XS.iloadN X0.here hx rfl (hb hby at_12) rfl ?_
      show Steps p.tables e below (s₁.setTop (mkF m 13 #[.val (.int p0), .val (.int p1), .val (.int p2), .val (.int op), .unset, .unset, .unset, .unset, .unset, .unset, .unset, .unset, .unset, .unset, .unset] [(.int p2)])) _
      refine XS.bipush X0.here hx rfl (hb hby at_13) ?_
      show Steps p.tables e below (s₁.setTop (mkF m 15 #[.val (.int p0), .val (.int p1), .val (.int p2), .val (.int op), .unset, .unset, .unset, .unset, .unset, .unset, .unset, .unset, .unset, .unset, .unset] [(.int (8 : Int32)), (.int p2)])) _
      refine XS.iand X0.here hx rfl (hb hby at_15) rfl ?_
      show Steps p.tables e below (s₁.setTop (mkF m 16 #[.val (.int p0), .val (.int p1), .val (.int p2), .val (.int op), .unset, .unset, .unset, .unset, .unset, .unset, .unset, .unset, .unset, .unset, .unset] [(.int (p2 &&& (8 : Int32)))])) _
      refine XS.ifYes X0.here hx rfl (pc0 := 16) (pc' := 23) rfl (hb hby at_16) rfl ((if0 _ _).trans (teq c16).1) (by decide) (by decide) ?_
      show Steps p.tables e below (s₁.setTop (mkF m 23 #[.val (.int p0), .val (.int p1), .val (.int p2), .val (.int op), .unset, .unset, .unset, .unset, .unset, .unset, .unset, .unset, .unset, .unset, .unset] [])) _
      refine XS.iconst X0.here hx rfl (hb hby at_23) ?_
      exact k
    · refine ⟨((1 : Int32)), Or.inl ⟨rfl, c16⟩, fun t k => pre2 t ?_⟩
      show Steps p.tables e below (s₁.setTop (mkF m 12 #[.val (.int p0), .val (.int p1), .val (.int p2), .val (.int op), .unset, .unset, .unset, .unset, .unset, .unset, .unset, .unset, .unset, .unset, .unset] [])) _
      refine XS.iloadN X0.here hx rfl (hb hby at_12) rfl ?_
      show Steps p.tables e below (s₁.setTop (mkF m 13 #[.val (.int p0), .val (.int p1), .val (.int p2), .val (.int op), .unset, .unset, .unset, .unset, .unset, .unset, .unset, .unset, .unset, .unset, .unset] [(.int p2)])) _
      refine XS.bipush X0.here hx rfl (hb hby at_13) ?_
      show Steps p.tables e below (s₁.setTop (mkF m 15 #[.val (.int p0), .val (.int p1), .val (.int p2), .val (.int op), .unset, .unset, .unset, .unset, .unset, .unset, .unset, .unset, .unset, .unset, .unset] [(.int (8 : Int32)), (.int p2)])) _
      refine XS.iand X0.here hx rfl (hb hby at_15) rfl ?_
      show Steps p.tables e below (s₁.setTop (mkF m 16 #[.val (.int p0), .val (.int p1), .val (.int p2), .val (.int op), .unset, .unset, .unset, .unset, .unset, .unset, .unset, .unset, .unset, .unset, .unset] [(.int (p2 &&& (8 : Int32)))])) _
      refine XS.ifNo X0.here hx rfl (hb hby at_16) rfl ((if0 _ _).trans (feq c16).1) ?_
      show Steps p.tables e below (s₁.setTop (mkF m 19 #[.val (.int p0), .val (.int p1), .val (.int p2), .val (.int op), .unset, .unset, .unset, .unset, .unset, .unset, .unset, .unset, .unset, .unset, .unset] [])) _
      refine XS.iconst X0.here hx rfl (hb hby at_19) ?_
      show Steps p.tables e below (s₁.setTop (mkF m 20 #[.val (.int p0), .val (.int p1), .val (.int p2), .val (.int op), .unset, .unset, .unset, .unset, .unset, .unset, .unset, .unset, .unset, .unset, .unset] [(.int (1 : Int32))])) _
      refine XS.goto X0.here hx rfl (pc0 := 20) (pc' := 24) rfl (hb hby at_20) (by decide) (by decide) ?_
      exact k
  have pre4 : ∀ t, Steps p.tables e below (s₁.setTop (mkF m 33 #[.val (.int p0), .val (.int p1), .val (.int p2), .val (.int op), .val (.int mo), .val (.int (((p2.toUInt32 >>> ((1 : Int32) &&& 31).toUInt32).toInt32) &&& (3 : Int32))), .unset, .unset, .unset, .unset, .unset, .unset, .unset, .unset, .unset] [])) t → Steps p.tables e below (s₁.setTop (entryFrame m #[(.int p0), (.int p1), (.int p2)] maxLocals)) t := by
    intro t k
    refine pre3 t ?_
    show Steps p.tables e below (s₁.setTop (mkF m 24 #[.val (.int p0), .val (.int p1), .val (.int p2), .val (.int op), .unset, .unset, .unset, .unset, .unset, .unset, .unset, .unset, .unset, .unset, .unset] [(.int mo)])) _
    refine XS.istore X0.here hx rfl (hb hby at_24) rfl (l' := #[.val (.int p0), .val (.int p1), .val (.int p2), .val (.int op), .val (.int mo), .unset, .unset, .unset, .unset, .unset, .unset, .unset, .unset, .unset, .unset]) rfl ?_
    show Steps p.tables e below (s₁.setTop (mkF m 26 #[.val (.int p0), .val (.int p1), .val (.int p2), .val (.int op), .val (.int mo), .unset, .unset, .unset, .unset, .unset, .unset, .unset, .unset, .unset, .unset] [])) _
    refine XS.iloadN X0.here hx rfl (hb hby at_26) rfl ?_
    show Steps p.tables e below (s₁.setTop (mkF m 27 #[.val (.int p0), .val (.int p1), .val (.int p2), .val (.int op), .val (.int mo), .unset, .unset, .unset, .unset, .unset, .unset, .unset, .unset, .unset, .unset] [(.int p2)])) _
    refine XS.iconst X0.here hx rfl (hb hby at_27) ?_
    show Steps p.tables e below (s₁.setTop (mkF m 28 #[.val (.int p0), .val (.int p1), .val (.int p2), .val (.int op), .val (.int mo), .unset, .unset, .unset, .unset, .unset, .unset, .unset, .unset, .unset, .unset] [(.int (1 : Int32)), (.int p2)])) _
    refine XS.iushr X0.here hx rfl (hb hby at_28) rfl ?_
    show Steps p.tables e below (s₁.setTop (mkF m 29 #[.val (.int p0), .val (.int p1), .val (.int p2), .val (.int op), .val (.int mo), .unset, .unset, .unset, .unset, .unset, .unset, .unset, .unset, .unset, .unset] [(.int ((p2.toUInt32 >>> ((1 : Int32) &&& 31).toUInt32).toInt32))])) _
    refine XS.iconst X0.here hx rfl (hb hby at_29) ?_
    show Steps p.tables e below (s₁.setTop (mkF m 30 #[.val (.int p0), .val (.int p1), .val (.int p2), .val (.int op), .val (.int mo), .unset, .unset, .unset, .unset, .unset, .unset, .unset, .unset, .unset, .unset] [(.int (3 : Int32)), (.int ((p2.toUInt32 >>> ((1 : Int32) &&& 31).toUInt32).toInt32))])) _
    refine XS.iand X0.here hx rfl (hb hby at_30) rfl ?_
    show Steps p.tables e below (s₁.setTop (mkF m 31 #[.val (.int p0), .val (.int p1), .val (.int p2), .val (.int op), .val (.int mo), .unset, .unset, .unset, .unset, .unset, .unset, .unset, .unset, .unset, .unset] [(.int (((p2.toUInt32 >>> ((1 : Int32) &&& 31).toUInt32).toInt32) &&& (3 : Int32)))])) _
    refine XS.istore X0.here hx rfl (hb hby at_31) rfl (l' := #[.val (.int p0), .val (.int p1), .val (.int p2), .val (.int op), .val (.int mo), .val (.int (((p2.toUInt32 >>> ((1 : Int32) &&& 31).toUInt32).toInt32) &&& (3 : Int32))), .unset, .unset, .unset, .unset, .unset, .unset, .unset, .unset, .unset]) rfl ?_
    exact k
  obtain ⟨md, emd⟩ : ∃ z, z = (((p2.toUInt32 >>> ((1 : Int32) &&& 31).toUInt32).toInt32) &&& (3 : Int32)) := ⟨_, rfl⟩
  rw [← emd] at pre4
  obtain ⟨er, hm5, pre5⟩ : ∃ (er : Int32), (nar .short er = er) ∧ ∀ t, Steps p.tables e below (s₁.setTop (mkF m 56 #[.val (.int p0), .val (.int p1), .val (.int p2), .val (.int op), .val (.int mo), .val (.int md), .unset, .unset, .unset, .unset, .unset, .unset, .unset, .unset, .unset] [(.int er)])) t → Steps p.tables e below (s₁.setTop (entryFrame m #[(.int p0), (.int p1), (.int p2)] maxLocals)) t := by
    by_cases c35 : md = 0
    · refine ⟨((70 : Int32)), rfl, fun t k => pre4 t ?_⟩
      show Steps p.tables e below (s₁.setTop (mkF m 33 #[.val (.int p0), .val (.int p1), .val (.int p2), .val (.int op), .val (.int mo), .val (.int md), .unset, .unset, .unset, .unset, .unset, .unset, .unset, .unset, .unset] [])) _
      refine XS.iload X0.here hx rfl (hb hby at_33) rfl ?_
      show Steps p.tables e below (s₁.setTop (mkF m 35 #[.val (.int p0), .val (.int p1), .val (.int p2), .val (.int op), .val (.int mo), .val (.int md), .unset, .unset, .unset, .unset, .unset, .unset, .unset, .unset, .unset] [(.int md)])) _
      refine XS.ifNo X0.here hx rfl (hb hby at_35) rfl ((if0 _ _).trans (teq c35).2) ?_
      show Steps p.tables e below (s₁.setTop (mkF m 38 #[.val (.int p0), .val (.int p1), .val (.int p2), .val (.int op), .val (.int mo), .val (.int md), .unset, .unset, .unset, .unset, .unset, .unset, .unset, .unset, .unset] [])) _
      refine XS.bipush X0.here hx rfl (hb hby at_38) ?_
      show Steps p.tables e below (s₁.setTop (mkF m 40 #[.val (.int p0), .val (.int p1), .val (.int p2), .val (.int op), .val (.int mo), .val (.int md), .unset, .unset, .unset, .unset, .unset, .unset, .unset, .unset, .unset] [(.int (70 : Int32))])) _
      refine XS.goto X0.here hx rfl (pc0 := 40) (pc' := 56) rfl (hb hby at_40) (by decide) (by decide) ?_
      exact k
    by_cases c46 : md = 1
    · refine ⟨((71 : Int32)), rfl, fun t k => pre4 t ?_⟩
      show Steps p.tables e below (s₁.setTop (mkF m 33 #[.val (.int p0), .val (.int p1), .val (.int p2), .val (.int op), .val (.int mo), .val (.int md), .unset, .unset, .unset, .unset, .unset, .unset, .unset, .unset, .unset] [])) _
      refine XS.iload X0.here hx rfl (hb hby at_33) rfl ?_
      show Steps p.tables e below (s₁.setTop (mkF m 35 #[.val (.int p0), .val (.int p1), .val (.int p2), .val (.int op), .val (.int mo), .val (.int md), .unset, .unset, .unset, .unset, .unset, .unset, .unset, .unset, .unset] [(.int md)])) _
      refine XS.ifYes X0.here hx rfl (pc0 := 35) (pc' := 43) rfl (hb hby at_35) rfl ((if0 _ _).trans (feq c35).2) (by decide) (by decide) ?_
      show Steps p.tables e below (s₁.setTop (mkF m 43 #[.val (.int p0), .val (.int p1), .val (.int p2), .val (.int op), .val (.int mo), .val (.int md), .unset, .unset, .unset, .unset, .unset, .unset, .unset, .unset, .unset] [])) _
      refine XS.iload X0.here hx rfl (hb hby at_43) rfl ?_
      show Steps p.tables e below (s₁.setTop (mkF m 45 #[.val (.int p0), .val (.int p1), .val (.int p2), .val (.int op), .val (.int mo), .val (.int md), .unset, .unset, .unset, .unset, .unset, .unset, .unset, .unset, .unset] [(.int md)])) _
      refine XS.iconst X0.here hx rfl (hb hby at_45) ?_
      show Steps p.tables e below (s₁.setTop (mkF m 46 #[.val (.int p0), .val (.int p1), .val (.int p2), .val (.int op), .val (.int mo), .val (.int md), .unset, .unset, .unset, .unset, .unset, .unset, .unset, .unset, .unset] [(.int (1 : Int32)), (.int md)])) _
      refine XS.icmpNo X0.here hx rfl (hb hby at_46) rfl (teq c46).2 ?_
      show Steps p.tables e below (s₁.setTop (mkF m 49 #[.val (.int p0), .val (.int p1), .val (.int p2), .val (.int op), .val (.int mo), .val (.int md), .unset, .unset, .unset, .unset, .unset, .unset, .unset, .unset, .unset] [])) _
      refine XS.bipush X0.here hx rfl (hb hby at_49) ?_
      show Steps p.tables e below (s₁.setTop (mkF m 51 #[.val (.int p0), .val (.int p1), .val (.int p2), .val (.int op), .val (.int mo), .val (.int md), .unset, .unset, .unset, .unset, .unset, .unset, .unset, .unset, .unset] [(.int (71 : Int32))])) _
      refine XS.goto X0.here hx rfl (pc0 := 51) (pc' := 56) rfl (hb hby at_51) (by decide) (by decide) ?_
      exact k
    · refine ⟨((p1.toInt16.toInt32)), (own_s16 p1), fun t k => pre4 t ?_⟩
      show Steps p.tables e below (s₁.setTop (mkF m 33 #[.val (.int p0), .val (.int p1), .val (.int p2), .val (.int op), .val (.int mo), .val (.int md), .unset, .unset, .unset, .unset, .unset, .unset, .unset, .unset, .unset] [])) _
      refine XS.iload X0.here hx rfl (hb hby at_33) rfl ?_
      show Steps p.tables e below (s₁.setTop (mkF m 35 #[.val (.int p0), .val (.int p1), .val (.int p2), .val (.int op), .val (.int mo), .val (.int md), .unset, .unset, .unset, .unset, .unset, .unset, .unset, .unset, .unset] [(.int md)])) _
      refine XS.ifYes X0.here hx rfl (pc0 := 35) (pc' := 43) rfl (hb hby at_35) rfl ((if0 _ _).trans (feq c35).2) (by decide) (by decide) ?_
      show Steps p.tables e below (s₁.setTop (mkF m 43 #[.val (.int p0), .val (.int p1), .val (.int p2), .val (.int op), .val (.int mo), .val (.int md), .unset, .unset, .unset, .unset, .unset, .unset, .unset, .unset, .unset] [])) _
      refine XS.iload X0.here hx rfl (hb hby at_43) rfl ?_
      show Steps p.tables e below (s₁.setTop (mkF m 45 #[.val (.int p0), .val (.int p1), .val (.int p2), .val (.int op), .val (.int mo), .val (.int md), .unset, .unset, .unset, .unset, .unset, .unset, .unset, .unset, .unset] [(.int md)])) _
      refine XS.iconst X0.here hx rfl (hb hby at_45) ?_
      show Steps p.tables e below (s₁.setTop (mkF m 46 #[.val (.int p0), .val (.int p1), .val (.int p2), .val (.int op), .val (.int mo), .val (.int md), .unset, .unset, .unset, .unset, .unset, .unset, .unset, .unset, .unset] [(.int (1 : Int32)), (.int md)])) _
      refine XS.icmpYes X0.here hx rfl (pc0 := 46) (pc' := 54) rfl (hb hby at_46) rfl (feq c46).2 (by decide) (by decide) ?_
      show Steps p.tables e below (s₁.setTop (mkF m 54 #[.val (.int p0), .val (.int p1), .val (.int p2), .val (.int op), .val (.int mo), .val (.int md), .unset, .unset, .unset, .unset, .unset, .unset, .unset, .unset, .unset] [])) _
      refine XS.iloadN X0.here hx rfl (hb hby at_54) rfl ?_
      show Steps p.tables e below (s₁.setTop (mkF m 55 #[.val (.int p0), .val (.int p1), .val (.int p2), .val (.int op), .val (.int mo), .val (.int md), .unset, .unset, .unset, .unset, .unset, .unset, .unset, .unset, .unset] [(.int p1)])) _
      refine XS.i2s X0.here hx rfl (hb hby at_55) rfl ?_
      exact k
  obtain ⟨T1, h1, X1, e1, E1, A1, D1, -, st1⟩ := newO X0 hx hZ hown (hw _ (List.mem_of_getElem? (i := 0) rfl)) (hw _ (List.mem_of_getElem? (i := 1) rfl)) (hw _ (List.mem_of_getElem? (i := 2) rfl)) e0 (g := (mkF m 58 #[.val (.int p0), .val (.int p1), .val (.int p2), .val (.int op), .val (.int mo), .val (.int md), .val (.int er), .unset, .unset, .unset, .unset, .unset, .unset, .unset, .unset] [])) rfl (hb hby at_58) (by decide) (by decide)
  obtain ⟨b1, g1⟩ : ∃ z, z = h0.size := ⟨_, rfl⟩
  rw [← g1] at A1 D1 st1
  have g_b1 : n0 ≤ b1 := Nat.le_trans Z0 (Nat.le_of_eq g1.symm)
  have Zs2 := Nat.le_trans Z0 E1.1
  have F_epoch_b1 : Fld Z h1 b1 "com/example/tideline/tideline/session/FetcherSession" "epoch" "I" (.int (0 : Int32)) := D1 (Or.inl (hw _ (List.mem_of_getElem? (i := 10) rfl))) (ty := .int) (by decide)
  have F_held_b1 : Fld Z h1 b1 "com/example/tideline/tideline/session/FetcherSession" "held" "Lcom/example/tideline/tideline/session/FetchSession$Partitions;" .null := D1 (Or.inl (hw _ (List.mem_of_getElem? (i := 47) rfl))) (ty := (.object "com/example/tideline/tideline/session/FetchSession$Partitions")) (by decide)
  have F_listing_b1 : Fld Z h1 b1 "com/example/tideline/tideline/session/FetcherSession" "listing" "Lcom/example/tideline/tideline/session/FetchSession$Partitions;" .null := D1 (Or.inl (hw _ (List.mem_of_getElem? (i := 49) rfl))) (ty := (.object "com/example/tideline/tideline/session/FetchSession$Partitions")) (by decide)
  have F_forgetting_b1 : Fld Z h1 b1 "com/example/tideline/tideline/session/FetcherSession" "forgetting" "Lcom/example/tideline/tideline/session/FetchSession$Partitions;" .null := D1 (Or.inl (hw _ (List.mem_of_getElem? (i := 51) rfl))) (ty := (.object "com/example/tideline/tideline/session/FetchSession$Partitions")) (by decide)
  have F_id_b1 : Fld Z h1 b1 "com/example/tideline/tideline/session/FetcherSession" "id" "I" (.int (0 : Int32)) := D1 (Or.inl (hw _ (List.mem_of_getElem? (i := 61) rfl))) (ty := .int) (by decide)
  have F_pending_b1 : Fld Z h1 b1 "com/example/tideline/tideline/session/FetcherSession" "pending" "Lcom/example/tideline/tideline/session/FetcherSession$Request;" .null := D1 (Or.inl (hw _ (List.mem_of_getElem? (i := 80) rfl))) (ty := (.object "com/example/tideline/tideline/session/FetcherSession$Request")) (by decide)
  obtain ⟨_, _, ⟨T3, L3, k3, n3⟩, -, X3, ⟨Lc3, hQ3, l3, y3, z3⟩, st3⟩ := X1.specialBack hx (y := (⟨"com/example/tideline/tideline/session/FetcherSession", "<init>", "()V"⟩ : MethodName)) rfl hown (mvT hZ (hw _ (List.mem_of_getElem? (i := 3) rfl))) (mvT hZ (hw _ (List.mem_of_getElem? (i := 4) rfl))) (mvT hZ (hw _ (List.mem_of_getElem? (i := 5) rfl))) (by decide) (backOf (W := 1) (rm1 l Z a0 hw [] b1 h1 n0 Zs2 F_epoch_b1 F_held_b1 F_listing_b1 F_forgetting_b1 F_id_b1 F_pending_b1 A1 g_b1) hZ (hw _ (List.mem_of_getElem? (i := 5) rfl)) (hw _ (List.mem_of_getElem? (i := 2) rfl)) (by decide) (by decide)) (g := (mkF m 62 #[.val (.int p0), .val (.int p1), .val (.int p2), .val (.int op), .val (.int mo), .val (.int md), .val (.int er), .unset, .unset, .unset, .unset, .unset, .unset, .unset, .unset] [(.ref b1), (.ref b1)])) rfl (by rw [hml]; rfl) (Steps.refl _) (a := b1) (argsL := []) (rest := [(.ref b1)]) (lenOf pd_0 rfl) rfl (by show 2 * 0 + _ ≤ _; exact Nat.le_of_eq rfl) (hb hby at_62) (fun _ _ => ⟨rfl, e1, (by decide : 1 + 6 ≤ _), (by decide : 6 + 42 ≤ _)⟩)
  dsimp only [Pt.U, Pt.locs, Pt.cells, Pt.slots] at X3 l3 y3 z3 st3 hQ3
  subst l3 y3 z3
  obtain ⟨xa3, xb3, xc3, rfl, N3q, K3q, E3q, F0_3q, F1_3q, F2_3q, F3_3q, F4_3q, F5_3q⟩ := hQ3
  have N3 := Fr.app N0 N3q
  have E_b1_3 := A1.keep K3q
  have Zs4 := Nat.le_trans Zs2 K3q.1
  obtain ⟨cq5, kq5, q5a, q5b, q5c⟩ := isOf hZ rfl E3q
  obtain ⟨_, _, ⟨T5, L5, k5, n5⟩, -, X5, ⟨Lc5, hQ5, l5, y5, z5⟩, st5⟩ := X3.virtualBack hx (y := (⟨"com/example/tideline/tideline/session/FetcherSession", "next", "()Lcom/example/tideline/tideline/session/FetcherSession$Request;"⟩ : MethodName)) (z := (⟨"com/example/tideline/tideline/session/FetcherSession", "next", "()Lcom/example/tideline/tideline/session/FetcherSession$Request;"⟩ : MethodName)) hown (mvT hZ (hw _ (List.mem_of_getElem? (i := 52) rfl))) (mvT hZ (hw _ (List.mem_of_getElem? (i := 53) rfl))) (notFace_of_selects (args := #[]) (mvT hZ (hw _ (List.mem_of_getElem? (i := 55) rfl)))) (mvT hZ (hw _ (List.mem_of_getElem? (i := 55) rfl))) (mvT hZ (hw _ (List.mem_of_getElem? (i := 54) rfl))) (by decide) (backOf (W := 0) (rm7 l Z a0 hw [] b1 (0 : Int32) (0 : Int32) xb3 xc3 (.ref xa3) .null T3.heap n0 Zs4 F0_3q F1_3q F2_3q F3_3q F4_3q F5_3q E3q g_b1) hZ (hw _ (List.mem_of_getElem? (i := 56) rfl)) (hw _ (List.mem_of_getElem? (i := 2) rfl)) (by decide) (by decide)) q5a q5c (g := (mkF m 69 #[.val (.int p0), .val (.int p1), .val (.int p2), .val (.int op), .val (.int mo), .val (.int md), .val (.int er), .val (.ref b1), .unset, .unset, .unset, .unset, .unset, .unset, .unset] [(.ref b1)])) rfl (by rw [hml]; rfl) (Steps.refl _) (argsL := []) (rest := []) (lenOf pd_7 rfl) rfl (by show 2 * 0 + _ ≤ _; exact Nat.le_of_eq rfl) (hb hby at_69) (fun _ _ => ⟨rfl, rfl, (by decide : 7 + 7 ≤ _), (by decide : 48 + 46 ≤ _)⟩)
  dsimp only [Pt.U, Pt.locs, Pt.cells, Pt.slots] at X5 l5 y5 z5 st5 hQ5
  subst l5 y5 z5
  obtain ⟨rq5, l2_5, f2_5, x3_5, rfl, N5q, K5q, E5q, Fid_5q, Fepoch_5q, Fheld_5q, Fpending_5q, Flisting_5q, Fforgetting_5q, Pl5q, Pf5q, Er5q, ge5q, RsessionId_5q, Repoch_5q, Rlisted_5q, Rforgotten_5q, hx5q⟩ := hQ5
  have N5 := Fr.app N3 N5q
  have hlt5 : b1 < T3.heap.size := E3q.lt
  have E_b1_5 := E3q.keep K5q
  have Zs6 := Nat.le_trans Zs4 K5q.1
  have ne_rq5 : rq5 ≠ b1 := fun q => Nat.lt_irrefl _ (Nat.lt_of_lt_of_le (q ▸ hlt5) ge5q)
  have pre6 : ∀ t, Steps p.tables e below (T5.setTop (mkF m 73 #[.val (.int p0), .val (.int p1), .val (.int p2), .val (.int op), .val (.int mo), .val (.int md), .val (.int er), .val (.ref b1), .unset, .unset, .unset, .unset, .unset, .unset, .unset] [])) t → Steps p.tables e below (s₁.setTop (entryFrame m #[(.int p0), (.int p1), (.int p2)] maxLocals)) t := by
    intro t k
    refine pre5 t ?_
    show Steps p.tables e below (s₁.setTop (mkF m 56 #[.val (.int p0), .val (.int p1), .val (.int p2), .val (.int op), .val (.int mo), .val (.int md), .unset, .unset, .unset, .unset, .unset, .unset, .unset, .unset, .unset] [(.int er)])) _
    refine XS.istore X0.here hx rfl (hb hby at_56) rfl (l' := #[.val (.int p0), .val (.int p1), .val (.int p2), .val (.int op), .val (.int mo), .val (.int md), .val (.int er), .unset, .unset, .unset, .unset, .unset, .unset, .unset, .unset]) rfl ?_
    show Steps p.tables e below (s₁.setTop (mkF m 58 #[.val (.int p0), .val (.int p1), .val (.int p2), .val (.int op), .val (.int mo), .val (.int md), .val (.int er), .unset, .unset, .unset, .unset, .unset, .unset, .unset, .unset] [])) _
    refine st1 _ ?_
    show Steps p.tables e below (T1.setTop (mkF m 61 #[.val (.int p0), .val (.int p1), .val (.int p2), .val (.int op), .val (.int mo), .val (.int md), .val (.int er), .unset, .unset, .unset, .unset, .unset, .unset, .unset, .unset] [(.ref b1)])) _
    refine XS.dup X1.here hx rfl (hb hby at_61) rfl rfl ?_
    show Steps p.tables e below (T1.setTop (mkF m 62 #[.val (.int p0), .val (.int p1), .val (.int p2), .val (.int op), .val (.int mo), .val (.int md), .val (.int er), .unset, .unset, .unset, .unset, .unset, .unset, .unset, .unset] [(.ref b1), (.ref b1)])) _
    refine st3.trans ?_
    show Steps p.tables e below (T3.setTop (mkF m 65 #[.val (.int p0), .val (.int p1), .val (.int p2), .val (.int op), .val (.int mo), .val (.int md), .val (.int er), .unset, .unset, .unset, .unset, .unset, .unset, .unset, .unset] [(.ref b1)])) _
    refine XS.astore X3.here hx rfl (hb hby at_65) rfl rfl (l' := #[.val (.int p0), .val (.int p1), .val (.int p2), .val (.int op), .val (.int mo), .val (.int md), .val (.int er), .val (.ref b1), .unset, .unset, .unset, .unset, .unset, .unset, .unset]) rfl ?_
    show Steps p.tables e below (T3.setTop (mkF m 67 #[.val (.int p0), .val (.int p1), .val (.int p2), .val (.int op), .val (.int mo), .val (.int md), .val (.int er), .val (.ref b1), .unset, .unset, .unset, .unset, .unset, .unset, .unset] [])) _
    refine XS.aload X3.here hx rfl (hb hby at_67) rfl rfl ?_
    show Steps p.tables e below (T3.setTop (mkF m 69 #[.val (.int p0), .val (.int p1), .val (.int p2), .val (.int op), .val (.int mo), .val (.int md), .val (.int er), .val (.ref b1), .unset, .unset, .unset, .unset, .unset, .unset, .unset] [(.ref b1)])) _
    refine st5.trans ?_
    show Steps p.tables e below (T5.setTop (mkF m 72 #[.val (.int p0), .val (.int p1), .val (.int p2), .val (.int op), .val (.int mo), .val (.int md), .val (.int er), .val (.ref b1), .unset, .unset, .unset, .unset, .unset, .unset, .unset] [(.ref rq5)])) _
    refine XS.pop X5.here hx rfl (hb hby at_72) rfl rfl ?_
    exact k
  rcases hb_op with hop | hop
  · skip
    obtain ⟨rfl, -⟩ := hop
    by_cases c88 : p0 = 0
    · skip
      obtain ⟨cq7, kq7, q7a, q7b, q7c⟩ := isOf hZ rfl E5q
      obtain ⟨_, _, ⟨T7, L7, k7, n7⟩, -, X7, ⟨Lc7, hQ7, l7, y7, z7⟩, st7⟩ := X5.virtualBack hx (y := (⟨"com/example/tideline/tideline/session/FetcherSession", "accepted", "(I)V"⟩ : MethodName)) (z := (⟨"com/example/tideline/tideline/session/FetcherSession", "accepted", "(I)V"⟩ : MethodName)) hown (mvT hZ (hw _ (List.mem_of_getElem? (i := 101) rfl))) (mvT hZ (hw _ (List.mem_of_getElem? (i := 102) rfl))) (notFace_of_selects (args := #[]) (mvT hZ (hw _ (List.mem_of_getElem? (i := 104) rfl)))) (mvT hZ (hw _ (List.mem_of_getElem? (i := 104) rfl))) (mvT hZ (hw _ (List.mem_of_getElem? (i := 103) rfl))) (by decide) (backOf (W := 0) (rm14z l Z a0 hw [] b1 p0 (0 : Int32) (0 : Int32) l2_5 f2_5 (.ref xa3) rq5 T5.heap n0 Zs6 Fepoch_5q Fheld_5q Flisting_5q Fforgetting_5q Fid_5q Fpending_5q E5q g_b1 rfl c88) hZ (hw _ (List.mem_of_getElem? (i := 105) rfl)) (hw _ (List.mem_of_getElem? (i := 2) rfl)) (by decide) (by decide)) q7a q7c (g := (mkF m 80 #[.val (.int p0), .val (.int p1), .val (.int p2), .val (.int (1 : Int32)), .val (.int mo), .val (.int md), .val (.int er), .val (.ref b1), .unset, .unset, .unset, .unset, .unset, .unset, .unset] [(.int p0), (.ref b1)])) rfl (by rw [hml]; rfl) (Steps.refl _) (argsL := [(.int p0)]) (rest := []) (lenOf pd_8 rfl) rfl (by show 2 * 0 + _ ≤ _; exact Nat.le_of_eq rfl) (hb hby at_80) (fun _ _ => ⟨rfl, rfl, (by decide : 14 + 0 ≤ _), (by decide : 94 + 0 ≤ _)⟩)
      dsimp only [Pt.U, Pt.locs, Pt.cells, Pt.slots] at X7 l7 y7 z7 st7 hQ7
      subst l7 y7 z7
      obtain ⟨rfl, N7q, K7q, E7q, F0_7q, F1_7q, F2_7q, F3_7q, F4_7q, F5_7q⟩ := hQ7
      have N7 := Fr.app N5 N7q
      have E_b1_7 := E5q.keep K7q
      have E_rq5_7 := Er5q.keep K7q
      have F_rq5_sessionId_7 := RsessionId_5q.keep K7q (ninS ne_rq5 nin0)
      have F_rq5_epoch_7 := Repoch_5q.keep K7q (ninS ne_rq5 nin0)
      have F_rq5_listed_7 := Rlisted_5q.keep K7q (ninS ne_rq5 nin0)
      have F_rq5_forgotten_7 := Rforgotten_5q.keep K7q (ninS ne_rq5 nin0)
      have P_l2_5_7 := Pl5q.keep K7q (allS hlt5 all0)
      have P_f2_5_7 := Pf5q.keep K7q (allS hlt5 all0)
      have Zs8 := Nat.le_trans Zs6 K7q.1
      have pre7 : ∀ t, Steps p.tables e below (T7.setTop (mkF m 83 #[.val (.int p0), .val (.int p1), .val (.int p2), .val (.int (1 : Int32)), .val (.int mo), .val (.int md), .val (.int er), .val (.ref b1), .unset, .unset, .unset, .unset, .unset, .unset, .unset] [])) t → Steps p.tables e below (s₁.setTop (entryFrame m #[(.int p0), (.int p1), (.int p2)] maxLocals)) t := by
        intro t k
        refine pre6 t ?_
        show Steps p.tables e below (T5.setTop (mkF m 73 #[.val (.int p0), .val (.int p1), .val (.int p2), .val (.int (1 : Int32)), .val (.int mo), .val (.int md), .val (.int er), .val (.ref b1), .unset, .unset, .unset, .unset, .unset, .unset, .unset] [])) _
        refine XS.iloadN X5.here hx rfl (hb hby at_73) rfl ?_
        show Steps p.tables e below (T5.setTop (mkF m 74 #[.val (.int p0), .val (.int p1), .val (.int p2), .val (.int (1 : Int32)), .val (.int mo), .val (.int md), .val (.int er), .val (.ref b1), .unset, .unset, .unset, .unset, .unset, .unset, .unset] [(.int (1 : Int32))])) _
        refine XS.ifNo X5.here hx rfl (hb hby at_74) rfl ((if0 _ _).trans (feq (by decide : ¬ ((1 : Int32) = (0 : Int32)))).1) ?_
        show Steps p.tables e below (T5.setTop (mkF m 77 #[.val (.int p0), .val (.int p1), .val (.int p2), .val (.int (1 : Int32)), .val (.int mo), .val (.int md), .val (.int er), .val (.ref b1), .unset, .unset, .unset, .unset, .unset, .unset, .unset] [])) _
        refine XS.aload X5.here hx rfl (hb hby at_77) rfl rfl ?_
        show Steps p.tables e below (T5.setTop (mkF m 79 #[.val (.int p0), .val (.int p1), .val (.int p2), .val (.int (1 : Int32)), .val (.int mo), .val (.int md), .val (.int er), .val (.ref b1), .unset, .unset, .unset, .unset, .unset, .unset, .unset] [(.ref b1)])) _
        refine XS.iloadN X5.here hx rfl (hb hby at_79) rfl ?_
        show Steps p.tables e below (T5.setTop (mkF m 80 #[.val (.int p0), .val (.int p1), .val (.int p2), .val (.int (1 : Int32)), .val (.int mo), .val (.int md), .val (.int er), .val (.ref b1), .unset, .unset, .unset, .unset, .unset, .unset, .unset] [(.int p0), (.ref b1)])) _
        refine st7.trans ?_
        exact k
      have pre8 : ∀ t, Steps p.tables e below (T7.setTop (mkF m 98 #[.val (.int p0), .val (.int p1), .val (.int p2), .val (.int (1 : Int32)), .val (.int mo), .val (.int md), .val (.int er), .val (.ref b1), .val (.int (0 : Int32)), .unset, .unset, .unset, .unset, .unset, .unset] [])) t → Steps p.tables e below (s₁.setTop (entryFrame m #[(.int p0), (.int p1), (.int p2)] maxLocals)) t := by
        intro t k
        refine pre7 t ?_
        show Steps p.tables e below (T7.setTop (mkF m 83 #[.val (.int p0), .val (.int p1), .val (.int p2), .val (.int (1 : Int32)), .val (.int mo), .val (.int md), .val (.int er), .val (.ref b1), .unset, .unset, .unset, .unset, .unset, .unset, .unset] [])) _
        refine XS.iloadN X7.here hx rfl (hb hby at_83) rfl ?_
        show Steps p.tables e below (T7.setTop (mkF m 84 #[.val (.int p0), .val (.int p1), .val (.int p2), .val (.int (1 : Int32)), .val (.int mo), .val (.int md), .val (.int er), .val (.ref b1), .unset, .unset, .unset, .unset, .unset, .unset, .unset] [(.int (1 : Int32))])) _
        refine XS.ifNo X7.here hx rfl (hb hby at_84) rfl ((if0 _ _).trans (feq (by decide : ¬ ((1 : Int32) = (0 : Int32)))).1) ?_
        show Steps p.tables e below (T7.setTop (mkF m 87 #[.val (.int p0), .val (.int p1), .val (.int p2), .val (.int (1 : Int32)), .val (.int mo), .val (.int md), .val (.int er), .val (.ref b1), .unset, .unset, .unset, .unset, .unset, .unset, .unset] [])) _
        refine XS.iloadN X7.here hx rfl (hb hby at_87) rfl ?_
        show Steps p.tables e below (T7.setTop (mkF m 88 #[.val (.int p0), .val (.int p1), .val (.int p2), .val (.int (1 : Int32)), .val (.int mo), .val (.int md), .val (.int er), .val (.ref b1), .unset, .unset, .unset, .unset, .unset, .unset, .unset] [(.int p0)])) _
        refine XS.ifYes X7.here hx rfl (pc0 := 88) (pc' := 95) rfl (hb hby at_88) rfl ((if0 _ _).trans (teq c88).1) (by decide) (by decide) ?_
        show Steps p.tables e below (T7.setTop (mkF m 95 #[.val (.int p0), .val (.int p1), .val (.int p2), .val (.int (1 : Int32)), .val (.int mo), .val (.int md), .val (.int er), .val (.ref b1), .unset, .unset, .unset, .unset, .unset, .unset, .unset] [])) _
        refine XS.iconst X7.here hx rfl (hb hby at_95) ?_
        show Steps p.tables e below (T7.setTop (mkF m 96 #[.val (.int p0), .val (.int p1), .val (.int p2), .val (.int (1 : Int32)), .val (.int mo), .val (.int md), .val (.int er), .val (.ref b1), .unset, .unset, .unset, .unset, .unset, .unset, .unset] [(.int (0 : Int32))])) _
        refine XS.istore X7.here hx rfl (hb hby at_96) rfl (l' := #[.val (.int p0), .val (.int p1), .val (.int p2), .val (.int (1 : Int32)), .val (.int mo), .val (.int md), .val (.int er), .val (.ref b1), .val (.int (0 : Int32)), .unset, .unset, .unset, .unset, .unset, .unset]) rfl ?_
        exact k
      have pre9 : ∀ t, Steps p.tables e below (T7.setTop (mkF m 110 #[.val (.int p0), .val (.int p1), .val (.int p2), .val (.int (1 : Int32)), .val (.int mo), .val (.int md), .val (.int er), .val (.ref b1), .val (.int (0 : Int32)), .val (.int (0 : Int32)), .unset, .unset, .unset, .unset, .unset] [])) t → Steps p.tables e below (s₁.setTop (entryFrame m #[(.int p0), (.int p1), (.int p2)] maxLocals)) t := by
        intro t k
        refine pre8 t ?_
        show Steps p.tables e below (T7.setTop (mkF m 98 #[.val (.int p0), .val (.int p1), .val (.int p2), .val (.int (1 : Int32)), .val (.int mo), .val (.int md), .val (.int er), .val (.ref b1), .val (.int (0 : Int32)), .unset, .unset, .unset, .unset, .unset, .unset] [])) _
        refine XS.iload X7.here hx rfl (hb hby at_98) rfl ?_
        show Steps p.tables e below (T7.setTop (mkF m 100 #[.val (.int p0), .val (.int p1), .val (.int p2), .val (.int (1 : Int32)), .val (.int mo), .val (.int md), .val (.int er), .val (.ref b1), .val (.int (0 : Int32)), .unset, .unset, .unset, .unset, .unset, .unset] [(.int (0 : Int32))])) _
        refine XS.ifYes X7.here hx rfl (pc0 := 100) (pc' := 107) rfl (hb hby at_100) rfl ((if0 _ _).trans (teq (rfl : (0 : Int32) = (0 : Int32))).1) (by decide) (by decide) ?_
        show Steps p.tables e below (T7.setTop (mkF m 107 #[.val (.int p0), .val (.int p1), .val (.int p2), .val (.int (1 : Int32)), .val (.int mo), .val (.int md), .val (.int er), .val (.ref b1), .val (.int (0 : Int32)), .unset, .unset, .unset, .unset, .unset, .unset] [])) _
        refine XS.iconst X7.here hx rfl (hb hby at_107) ?_
        show Steps p.tables e below (T7.setTop (mkF m 108 #[.val (.int p0), .val (.int p1), .val (.int p2), .val (.int (1 : Int32)), .val (.int mo), .val (.int md), .val (.int er), .val (.ref b1), .val (.int (0 : Int32)), .unset, .unset, .unset, .unset, .unset, .unset] [(.int (0 : Int32))])) _
        refine XS.istore X7.here hx rfl (hb hby at_108) rfl (l' := #[.val (.int p0), .val (.int p1), .val (.int p2), .val (.int (1 : Int32)), .val (.int mo), .val (.int md), .val (.int er), .val (.ref b1), .val (.int (0 : Int32)), .val (.int (0 : Int32)), .unset, .unset, .unset, .unset, .unset]) rfl ?_
        exact k
      rcases hb_mo with hmo | hmo
      · skip
        obtain ⟨rfl, -⟩ := hmo
        have pre10 : ∀ t, Steps p.tables e below (T7.setTop (mkF m 135 #[.val (.int p0), .val (.int p1), .val (.int p2), .val (.int (1 : Int32)), .val (.int (1 : Int32)), .val (.int md), .val (.int er), .val (.ref b1), .val (.int (0 : Int32)), .val (.int (0 : Int32)), .unset, .unset, .unset, .unset, .unset] [])) t → Steps p.tables e below (s₁.setTop (entryFrame m #[(.int p0), (.int p1), (.int p2)] maxLocals)) t := by
          intro t k
          refine pre9 t ?_
          show Steps p.tables e below (T7.setTop (mkF m 110 #[.val (.int p0), .val (.int p1), .val (.int p2), .val (.int (1 : Int32)), .val (.int (1 : Int32)), .val (.int md), .val (.int er), .val (.ref b1), .val (.int (0 : Int32)), .val (.int (0 : Int32)), .unset, .unset, .unset, .unset, .unset] [])) _
          refine XS.iload X7.here hx rfl (hb hby at_110) rfl ?_
          show Steps p.tables e below (T7.setTop (mkF m 112 #[.val (.int p0), .val (.int p1), .val (.int p2), .val (.int (1 : Int32)), .val (.int (1 : Int32)), .val (.int md), .val (.int er), .val (.ref b1), .val (.int (0 : Int32)), .val (.int (0 : Int32)), .unset, .unset, .unset, .unset, .unset] [(.int (1 : Int32))])) _
          refine XS.ifNo X7.here hx rfl (hb hby at_112) rfl ((if0 _ _).trans (feq (by decide : ¬ ((1 : Int32) = (0 : Int32)))).1) ?_
          show Steps p.tables e below (T7.setTop (mkF m 115 #[.val (.int p0), .val (.int p1), .val (.int p2), .val (.int (1 : Int32)), .val (.int (1 : Int32)), .val (.int md), .val (.int er), .val (.ref b1), .val (.int (0 : Int32)), .val (.int (0 : Int32)), .unset, .unset, .unset, .unset, .unset] [])) _
          refine XS.iload X7.here hx rfl (hb hby at_115) rfl ?_
          show Steps p.tables e below (T7.setTop (mkF m 117 #[.val (.int p0), .val (.int p1), .val (.int p2), .val (.int (1 : Int32)), .val (.int (1 : Int32)), .val (.int md), .val (.int er), .val (.ref b1), .val (.int (0 : Int32)), .val (.int (0 : Int32)), .unset, .unset, .unset, .unset, .unset] [(.int (0 : Int32))])) _
          refine XS.ifYes X7.here hx rfl (pc0 := 117) (pc' := 135) rfl (hb hby at_117) rfl ((if0 _ _).trans (teq (rfl : (0 : Int32) = (0 : Int32))).1) (by decide) (by decide) ?_
          exact k
        obtain ⟨cq9, kq9, q9a, q9b, q9c⟩ := isOf hZ rfl E7q
        obtain ⟨_, _, ⟨T9, L9, k9, n9⟩, -, X9, ⟨Lc9, hQ9, l9, y9, z9⟩, st9⟩ := X7.virtualBack hx (y := (⟨"com/example/tideline/tideline/session/FetcherSession", "startOver", "(S)Z"⟩ : MethodName)) (z := (⟨"com/example/tideline/tideline/session/FetcherSession", "startOver", "(S)Z"⟩ : MethodName)) hown (mvT hZ (hw _ (List.mem_of_getElem? (i := 81) rfl))) (mvT hZ (hw _ (List.mem_of_getElem? (i := 82) rfl))) (notFace_of_selects (args := #[]) (mvT hZ (hw _ (List.mem_of_getElem? (i := 84) rfl)))) (mvT hZ (hw _ (List.mem_of_getElem? (i := 84) rfl))) (mvT hZ (hw _ (List.mem_of_getElem? (i := 83) rfl))) (by decide) (backOf (W := 0) (rm10z l Z a0 hw [] b1 er p0 (0 : Int32) l2_5 f2_5 (.ref xa3) (.ref rq5) T7.heap n0 Zs8 F0_7q F1_7q F2_7q F3_7q F4_7q F5_7q E7q g_b1 rfl) hZ (hw _ (List.mem_of_getElem? (i := 85) rfl)) (hw _ (List.mem_of_getElem? (i := 2) rfl)) (by decide) (by decide)) q9a q9c (g := (mkF m 139 #[.val (.int p0), .val (.int p1), .val (.int p2), .val (.int (1 : Int32)), .val (.int (1 : Int32)), .val (.int md), .val (.int er), .val (.ref b1), .val (.int (0 : Int32)), .val (.int (0 : Int32)), .unset, .unset, .unset, .unset, .unset] [(.int er), (.ref b1)])) rfl (by rw [hml]; rfl) (Steps.refl _) (argsL := [(.int er)]) (rest := []) (lenOf pd_9 rfl) rfl (by show 2 * 0 + _ ≤ _; exact Nat.le_of_eq rfl) (hb hby at_139) (fun _ _ => ⟨rfl, rfl, (by decide : 14 + 0 ≤ _), (by decide : 94 + 0 ≤ _)⟩)
        dsimp only [Pt.U, Pt.locs, Pt.cells, Pt.slots] at X9 l9 y9 z9 st9 hQ9
        subst l9 y9 z9
        obtain ⟨rfl, N9q, K9q, E9q, F0_9q, F1_9q, F2_9q, F3_9q, F4_9q, F5_9q⟩ := hQ9
        have N9 := Fr.app N7 N9q
        have E_b1_9 := E7q.keep K9q
        have E_rq5_9 := E_rq5_7.keep K9q
        have F_rq5_sessionId_9 := F_rq5_sessionId_7.keep K9q (ninS ne_rq5 nin0)
        have F_rq5_epoch_9 := F_rq5_epoch_7.keep K9q (ninS ne_rq5 nin0)
        have F_rq5_listed_9 := F_rq5_listed_7.keep K9q (ninS ne_rq5 nin0)
        have F_rq5_forgotten_9 := F_rq5_forgotten_7.keep K9q (ninS ne_rq5 nin0)
        have P_l2_5_9 := P_l2_5_7.keep K9q (allS hlt5 all0)
        have P_f2_5_9 := P_f2_5_7.keep K9q (allS hlt5 all0)
        have Zs10 := Nat.le_trans Zs8 K9q.1
        have pre11 : ∀ t, Steps p.tables e below (T9.setTop (mkF m 144 #[.val (.int p0), .val (.int p1), .val (.int p2), .val (.int (1 : Int32)), .val (.int (1 : Int32)), .val (.int md), .val (.int er), .val (.ref b1), .val (.int (0 : Int32)), .val (.int (0 : Int32)), .val (.int (0 : Int32)), .unset, .unset, .unset, .unset] [])) t → Steps p.tables e below (s₁.setTop (entryFrame m #[(.int p0), (.int p1), (.int p2)] maxLocals)) t := by
          intro t k
          refine pre10 t ?_
          show Steps p.tables e below (T7.setTop (mkF m 135 #[.val (.int p0), .val (.int p1), .val (.int p2), .val (.int (1 : Int32)), .val (.int (1 : Int32)), .val (.int md), .val (.int er), .val (.ref b1), .val (.int (0 : Int32)), .val (.int (0 : Int32)), .unset, .unset, .unset, .unset, .unset] [])) _
          refine XS.aload X7.here hx rfl (hb hby at_135) rfl rfl ?_
          show Steps p.tables e below (T7.setTop (mkF m 137 #[.val (.int p0), .val (.int p1), .val (.int p2), .val (.int (1 : Int32)), .val (.int (1 : Int32)), .val (.int md), .val (.int er), .val (.ref b1), .val (.int (0 : Int32)), .val (.int (0 : Int32)), .unset, .unset, .unset, .unset, .unset] [(.ref b1)])) _
          refine XS.iload X7.here hx rfl (hb hby at_137) rfl ?_
          show Steps p.tables e below (T7.setTop (mkF m 139 #[.val (.int p0), .val (.int p1), .val (.int p2), .val (.int (1 : Int32)), .val (.int (1 : Int32)), .val (.int md), .val (.int er), .val (.ref b1), .val (.int (0 : Int32)), .val (.int (0 : Int32)), .unset, .unset, .unset, .unset, .unset] [(.int er), (.ref b1)])) _
          refine st9.trans ?_
          show Steps p.tables e below (T9.setTop (mkF m 142 #[.val (.int p0), .val (.int p1), .val (.int p2), .val (.int (1 : Int32)), .val (.int (1 : Int32)), .val (.int md), .val (.int er), .val (.ref b1), .val (.int (0 : Int32)), .val (.int (0 : Int32)), .unset, .unset, .unset, .unset, .unset] [(.int (0 : Int32))])) _
          refine XS.istore X9.here hx rfl (hb hby at_142) rfl (l' := #[.val (.int p0), .val (.int p1), .val (.int p2), .val (.int (1 : Int32)), .val (.int (1 : Int32)), .val (.int md), .val (.int er), .val (.ref b1), .val (.int (0 : Int32)), .val (.int (0 : Int32)), .val (.int (0 : Int32)), .unset, .unset, .unset, .unset]) rfl ?_
          exact k
        have pre12 : ∀ t, Steps p.tables e below (T9.setTop (mkF m 170 #[.val (.int p0), .val (.int p1), .val (.int p2), .val (.int (1 : Int32)), .val (.int (1 : Int32)), .val (.int md), .val (.int er), .val (.ref b1), .val (.int (0 : Int32)), .val (.int (0 : Int32)), .val (.int (0 : Int32)), .val (.int (0 : Int32)), .unset, .unset, .unset] [])) t → Steps p.tables e below (s₁.setTop (entryFrame m #[(.int p0), (.int p1), (.int p2)] maxLocals)) t := by
          intro t k
          refine pre11 t ?_
          show Steps p.tables e below (T9.setTop (mkF m 144 #[.val (.int p0), .val (.int p1), .val (.int p2), .val (.int (1 : Int32)), .val (.int (1 : Int32)), .val (.int md), .val (.int er), .val (.ref b1), .val (.int (0 : Int32)), .val (.int (0 : Int32)), .val (.int (0 : Int32)), .unset, .unset, .unset, .unset] [])) _
          refine XS.iload X9.here hx rfl (hb hby at_144) rfl ?_
          show Steps p.tables e below (T9.setTop (mkF m 146 #[.val (.int p0), .val (.int p1), .val (.int p2), .val (.int (1 : Int32)), .val (.int (1 : Int32)), .val (.int md), .val (.int er), .val (.ref b1), .val (.int (0 : Int32)), .val (.int (0 : Int32)), .val (.int (0 : Int32)), .unset, .unset, .unset, .unset] [(.int (0 : Int32))])) _
          refine XS.ifYes X9.here hx rfl (pc0 := 146) (pc' := 167) rfl (hb hby at_146) rfl ((if0 _ _).trans (teq (rfl : (0 : Int32) = (0 : Int32))).1) (by decide) (by decide) ?_
          show Steps p.tables e below (T9.setTop (mkF m 167 #[.val (.int p0), .val (.int p1), .val (.int p2), .val (.int (1 : Int32)), .val (.int (1 : Int32)), .val (.int md), .val (.int er), .val (.ref b1), .val (.int (0 : Int32)), .val (.int (0 : Int32)), .val (.int (0 : Int32)), .unset, .unset, .unset, .unset] [])) _
          refine XS.iconst X9.here hx rfl (hb hby at_167) ?_
          show Steps p.tables e below (T9.setTop (mkF m 168 #[.val (.int p0), .val (.int p1), .val (.int p2), .val (.int (1 : Int32)), .val (.int (1 : Int32)), .val (.int md), .val (.int er), .val (.ref b1), .val (.int (0 : Int32)), .val (.int (0 : Int32)), .val (.int (0 : Int32)), .unset, .unset, .unset, .unset] [(.int (0 : Int32))])) _
          refine XS.istore X9.here hx rfl (hb hby at_168) rfl (l' := #[.val (.int p0), .val (.int p1), .val (.int p2), .val (.int (1 : Int32)), .val (.int (1 : Int32)), .val (.int md), .val (.int er), .val (.ref b1), .val (.int (0 : Int32)), .val (.int (0 : Int32)), .val (.int (0 : Int32)), .val (.int (0 : Int32)), .unset, .unset, .unset]) rfl ?_
          exact k
        have pre13 : ∀ t, Steps p.tables e below (T9.setTop (mkF m 194 #[.val (.int p0), .val (.int p1), .val (.int p2), .val (.int (1 : Int32)), .val (.int (1 : Int32)), .val (.int md), .val (.int er), .val (.ref b1), .val (.int (0 : Int32)), .val (.int (0 : Int32)), .val (.int (0 : Int32)), .val (.int (0 : Int32)), .val (.int (0 : Int32)), .unset, .unset] [])) t → Steps p.tables e below (s₁.setTop (entryFrame m #[(.int p0), (.int p1), (.int p2)] maxLocals)) t := by
          intro t k
          refine pre12 t ?_
          show Steps p.tables e below (T9.setTop (mkF m 170 #[.val (.int p0), .val (.int p1), .val (.int p2), .val (.int (1 : Int32)), .val (.int (1 : Int32)), .val (.int md), .val (.int er), .val (.ref b1), .val (.int (0 : Int32)), .val (.int (0 : Int32)), .val (.int (0 : Int32)), .val (.int (0 : Int32)), .unset, .unset, .unset] [])) _
          refine XS.iload X9.here hx rfl (hb hby at_170) rfl ?_
          show Steps p.tables e below (T9.setTop (mkF m 172 #[.val (.int p0), .val (.int p1), .val (.int p2), .val (.int (1 : Int32)), .val (.int (1 : Int32)), .val (.int md), .val (.int er), .val (.ref b1), .val (.int (0 : Int32)), .val (.int (0 : Int32)), .val (.int (0 : Int32)), .val (.int (0 : Int32)), .unset, .unset, .unset] [(.int (0 : Int32))])) _
          refine XS.ifYes X9.here hx rfl (pc0 := 172) (pc' := 191) rfl (hb hby at_172) rfl ((if0 _ _).trans (teq (rfl : (0 : Int32) = (0 : Int32))).1) (by decide) (by decide) ?_
          show Steps p.tables e below (T9.setTop (mkF m 191 #[.val (.int p0), .val (.int p1), .val (.int p2), .val (.int (1 : Int32)), .val (.int (1 : Int32)), .val (.int md), .val (.int er), .val (.ref b1), .val (.int (0 : Int32)), .val (.int (0 : Int32)), .val (.int (0 : Int32)), .val (.int (0 : Int32)), .unset, .unset, .unset] [])) _
          refine XS.iconst X9.here hx rfl (hb hby at_191) ?_
          show Steps p.tables e below (T9.setTop (mkF m 192 #[.val (.int p0), .val (.int p1), .val (.int p2), .val (.int (1 : Int32)), .val (.int (1 : Int32)), .val (.int md), .val (.int er), .val (.ref b1), .val (.int (0 : Int32)), .val (.int (0 : Int32)), .val (.int (0 : Int32)), .val (.int (0 : Int32)), .unset, .unset, .unset] [(.int (0 : Int32))])) _
          refine XS.istore X9.here hx rfl (hb hby at_192) rfl (l' := #[.val (.int p0), .val (.int p1), .val (.int p2), .val (.int (1 : Int32)), .val (.int (1 : Int32)), .val (.int md), .val (.int er), .val (.ref b1), .val (.int (0 : Int32)), .val (.int (0 : Int32)), .val (.int (0 : Int32)), .val (.int (0 : Int32)), .val (.int (0 : Int32)), .unset, .unset]) rfl ?_
          exact k
        have pre14 : ∀ t, Steps p.tables e below (T9.setTop (mkF m 207 #[.val (.int p0), .val (.int p1), .val (.int p2), .val (.int (1 : Int32)), .val (.int (1 : Int32)), .val (.int md), .val (.int er), .val (.ref b1), .val (.int (0 : Int32)), .val (.int (0 : Int32)), .val (.int (0 : Int32)), .val (.int (0 : Int32)), .val (.int (0 : Int32)), .val (.int (0 : Int32)), .unset] [])) t → Steps p.tables e below (s₁.setTop (entryFrame m #[(.int p0), (.int p1), (.int p2)] maxLocals)) t := by
          intro t k
          refine pre13 t ?_
          show Steps p.tables e below (T9.setTop (mkF m 194 #[.val (.int p0), .val (.int p1), .val (.int p2), .val (.int (1 : Int32)), .val (.int (1 : Int32)), .val (.int md), .val (.int er), .val (.ref b1), .val (.int (0 : Int32)), .val (.int (0 : Int32)), .val (.int (0 : Int32)), .val (.int (0 : Int32)), .val (.int (0 : Int32)), .unset, .unset] [])) _
          refine XS.iload X9.here hx rfl (hb hby at_194) rfl ?_
          show Steps p.tables e below (T9.setTop (mkF m 196 #[.val (.int p0), .val (.int p1), .val (.int p2), .val (.int (1 : Int32)), .val (.int (1 : Int32)), .val (.int md), .val (.int er), .val (.ref b1), .val (.int (0 : Int32)), .val (.int (0 : Int32)), .val (.int (0 : Int32)), .val (.int (0 : Int32)), .val (.int (0 : Int32)), .unset, .unset] [(.int (0 : Int32))])) _
          refine XS.ifYes X9.here hx rfl (pc0 := 196) (pc' := 203) rfl (hb hby at_196) rfl ((if0 _ _).trans (teq (rfl : (0 : Int32) = (0 : Int32))).1) (by decide) (by decide) ?_
          show Steps p.tables e below (T9.setTop (mkF m 203 #[.val (.int p0), .val (.int p1), .val (.int p2), .val (.int (1 : Int32)), .val (.int (1 : Int32)), .val (.int md), .val (.int er), .val (.ref b1), .val (.int (0 : Int32)), .val (.int (0 : Int32)), .val (.int (0 : Int32)), .val (.int (0 : Int32)), .val (.int (0 : Int32)), .unset, .unset] [])) _
          refine XS.iload X9.here hx rfl (hb hby at_203) rfl ?_
          show Steps p.tables e below (T9.setTop (mkF m 205 #[.val (.int p0), .val (.int p1), .val (.int p2), .val (.int (1 : Int32)), .val (.int (1 : Int32)), .val (.int md), .val (.int er), .val (.ref b1), .val (.int (0 : Int32)), .val (.int (0 : Int32)), .val (.int (0 : Int32)), .val (.int (0 : Int32)), .val (.int (0 : Int32)), .unset, .unset] [(.int (0 : Int32))])) _
          refine XS.istore X9.here hx rfl (hb hby at_205) rfl (l' := #[.val (.int p0), .val (.int p1), .val (.int p2), .val (.int (1 : Int32)), .val (.int (1 : Int32)), .val (.int md), .val (.int er), .val (.ref b1), .val (.int (0 : Int32)), .val (.int (0 : Int32)), .val (.int (0 : Int32)), .val (.int (0 : Int32)), .val (.int (0 : Int32)), .val (.int (0 : Int32)), .unset]) rfl ?_
          exact k
        obtain ⟨cq11, kq11, q11a, q11b, q11c⟩ := isOf hZ rfl E9q
        obtain ⟨_, _, ⟨T11, L11, k11, n11⟩, -, X11, ⟨Lc11, hQ11, l11, y11, z11⟩, st11⟩ := X9.virtualBack hx (y := (⟨"com/example/tideline/tideline/session/FetcherSession", "next", "()Lcom/example/tideline/tideline/session/FetcherSession$Request;"⟩ : MethodName)) (z := (⟨"com/example/tideline/tideline/session/FetcherSession", "next", "()Lcom/example/tideline/tideline/session/FetcherSession$Request;"⟩ : MethodName)) hown (mvT hZ (hw _ (List.mem_of_getElem? (i := 52) rfl))) (mvT hZ (hw _ (List.mem_of_getElem? (i := 53) rfl))) (notFace_of_selects (args := #[]) (mvT hZ (hw _ (List.mem_of_getElem? (i := 55) rfl)))) (mvT hZ (hw _ (List.mem_of_getElem? (i := 55) rfl))) (mvT hZ (hw _ (List.mem_of_getElem? (i := 54) rfl))) (by decide) (backOf (W := 0) (rm7 l Z a0 hw [] b1 p0 (0 : Int32) l2_5 f2_5 (.ref xa3) (.ref rq5) T9.heap n0 Zs10 F0_9q F1_9q F2_9q F3_9q F4_9q F5_9q E9q g_b1) hZ (hw _ (List.mem_of_getElem? (i := 56) rfl)) (hw _ (List.mem_of_getElem? (i := 2) rfl)) (by decide) (by decide)) q11a q11c (g := (mkF m 209 #[.val (.int p0), .val (.int p1), .val (.int p2), .val (.int (1 : Int32)), .val (.int (1 : Int32)), .val (.int md), .val (.int er), .val (.ref b1), .val (.int (0 : Int32)), .val (.int (0 : Int32)), .val (.int (0 : Int32)), .val (.int (0 : Int32)), .val (.int (0 : Int32)), .val (.int (0 : Int32)), .unset] [(.ref b1)])) rfl (by rw [hml]; rfl) (Steps.refl _) (argsL := []) (rest := []) (lenOf pd_7 rfl) rfl (by show 2 * 0 + _ ≤ _; exact Nat.le_of_eq rfl) (hb hby at_209) (fun _ _ => ⟨rfl, rfl, (by decide : 14 + 7 ≤ _), (by decide : 94 + 46 ≤ _)⟩)
        dsimp only [Pt.U, Pt.locs, Pt.cells, Pt.slots] at X11 l11 y11 z11 st11 hQ11
        subst l11 y11 z11
        obtain ⟨rq11, l2_11, f2_11, x3_11, rfl, N11q, K11q, E11q, Fid_11q, Fepoch_11q, Fheld_11q, Fpending_11q, Flisting_11q, Fforgetting_11q, Pl11q, Pf11q, Er11q, ge11q, RsessionId_11q, Repoch_11q, Rlisted_11q, Rforgotten_11q, hx11q⟩ := hQ11
        have N11 := Fr.app N9 N11q
        have hlt11 : b1 < T9.heap.size := E9q.lt
        have E_b1_11 := E9q.keep K11q
        have P_l2_5_11 := P_l2_5_9.keep K11q (allS hlt5 all0)
        have P_f2_5_11 := P_f2_5_9.keep K11q (allS hlt5 all0)
        have Zs12 := Nat.le_trans Zs10 K11q.1
        have ne_rq11 : rq11 ≠ b1 := fun q => Nat.lt_irrefl _ (Nat.lt_of_lt_of_le (q ▸ hlt11) ge11q)
        have pre15 : ∀ t, Steps p.tables e below (T11.setTop (mkF m 214 #[.val (.int p0), .val (.int p1), .val (.int p2), .val (.int (1 : Int32)), .val (.int (1 : Int32)), .val (.int md), .val (.int er), .val (.ref b1), .val (.int (0 : Int32)), .val (.int (0 : Int32)), .val (.int (0 : Int32)), .val (.int (0 : Int32)), .val (.int (0 : Int32)), .val (.int (0 : Int32)), .val (.ref rq11)] [])) t → Steps p.tables e below (s₁.setTop (entryFrame m #[(.int p0), (.int p1), (.int p2)] maxLocals)) t := by
          intro t k
          refine pre14 t ?_
          show Steps p.tables e below (T9.setTop (mkF m 207 #[.val (.int p0), .val (.int p1), .val (.int p2), .val (.int (1 : Int32)), .val (.int (1 : Int32)), .val (.int md), .val (.int er), .val (.ref b1), .val (.int (0 : Int32)), .val (.int (0 : Int32)), .val (.int (0 : Int32)), .val (.int (0 : Int32)), .val (.int (0 : Int32)), .val (.int (0 : Int32)), .unset] [])) _
          refine XS.aload X9.here hx rfl (hb hby at_207) rfl rfl ?_
          show Steps p.tables e below (T9.setTop (mkF m 209 #[.val (.int p0), .val (.int p1), .val (.int p2), .val (.int (1 : Int32)), .val (.int (1 : Int32)), .val (.int md), .val (.int er), .val (.ref b1), .val (.int (0 : Int32)), .val (.int (0 : Int32)), .val (.int (0 : Int32)), .val (.int (0 : Int32)), .val (.int (0 : Int32)), .val (.int (0 : Int32)), .unset] [(.ref b1)])) _
          refine st11.trans ?_
          show Steps p.tables e below (T11.setTop (mkF m 212 #[.val (.int p0), .val (.int p1), .val (.int p2), .val (.int (1 : Int32)), .val (.int (1 : Int32)), .val (.int md), .val (.int er), .val (.ref b1), .val (.int (0 : Int32)), .val (.int (0 : Int32)), .val (.int (0 : Int32)), .val (.int (0 : Int32)), .val (.int (0 : Int32)), .val (.int (0 : Int32)), .unset] [(.ref rq11)])) _
          refine XS.astore X11.here hx rfl (hb hby at_212) rfl rfl (l' := #[.val (.int p0), .val (.int p1), .val (.int p2), .val (.int (1 : Int32)), .val (.int (1 : Int32)), .val (.int md), .val (.int er), .val (.ref b1), .val (.int (0 : Int32)), .val (.int (0 : Int32)), .val (.int (0 : Int32)), .val (.int (0 : Int32)), .val (.int (0 : Int32)), .val (.int (0 : Int32)), .val (.ref rq11)]) rfl ?_
          exact k
        have pre16 : ∀ t, Steps p.tables e below (T11.setTop (mkF m 221 #[.val (.int p0), .val (.int p1), .val (.int p2), .val (.int (1 : Int32)), .val (.int (1 : Int32)), .val (.int md), .val (.int er), .val (.ref b1), .val (.int (0 : Int32)), .val (.int (0 : Int32)), .val (.int (0 : Int32)), .val (.int (0 : Int32)), .val (.int (0 : Int32)), .val (.int (0 : Int32)), .val (.ref rq11)] [])) t → Steps p.tables e below (s₁.setTop (entryFrame m #[(.int p0), (.int p1), (.int p2)] maxLocals)) t := by
          intro t k
          refine pre15 t ?_
          show Steps p.tables e below (T11.setTop (mkF m 214 #[.val (.int p0), .val (.int p1), .val (.int p2), .val (.int (1 : Int32)), .val (.int (1 : Int32)), .val (.int md), .val (.int er), .val (.ref b1), .val (.int (0 : Int32)), .val (.int (0 : Int32)), .val (.int (0 : Int32)), .val (.int (0 : Int32)), .val (.int (0 : Int32)), .val (.int (0 : Int32)), .val (.ref rq11)] [])) _
          refine XS.iload X11.here hx rfl (hb hby at_214) rfl ?_
          show Steps p.tables e below (T11.setTop (mkF m 216 #[.val (.int p0), .val (.int p1), .val (.int p2), .val (.int (1 : Int32)), .val (.int (1 : Int32)), .val (.int md), .val (.int er), .val (.ref b1), .val (.int (0 : Int32)), .val (.int (0 : Int32)), .val (.int (0 : Int32)), .val (.int (0 : Int32)), .val (.int (0 : Int32)), .val (.int (0 : Int32)), .val (.ref rq11)] [(.int (0 : Int32))])) _
          refine XS.iload X11.here hx rfl (hb hby at_216) rfl ?_
          show Steps p.tables e below (T11.setTop (mkF m 218 #[.val (.int p0), .val (.int p1), .val (.int p2), .val (.int (1 : Int32)), .val (.int (1 : Int32)), .val (.int md), .val (.int er), .val (.ref b1), .val (.int (0 : Int32)), .val (.int (0 : Int32)), .val (.int (0 : Int32)), .val (.int (0 : Int32)), .val (.int (0 : Int32)), .val (.int (0 : Int32)), .val (.ref rq11)] [(.int (0 : Int32)), (.int (0 : Int32))])) _
          refine XS.icmpNo X11.here hx rfl (hb hby at_218) rfl (teq (rfl : (0 : Int32) = (0 : Int32))).2 ?_
          exact k
        obtain ⟨cq13, kq13, q13a, q13b, q13c⟩ := isOf hZ rfl E11q
        obtain ⟨_, _, ⟨T13, L13, k13, n13⟩, -, X13, ⟨Lc13, hQ13, l13, y13, z13⟩, st13⟩ := X11.virtualBack hx (y := (⟨"com/example/tideline/tideline/session/FetcherSession", "incremental", "()Z"⟩ : MethodName)) (z := (⟨"com/example/tideline/tideline/session/FetcherSession", "incremental", "()Z"⟩ : MethodName)) hown (mvT hZ (hw _ (List.mem_of_getElem? (i := 86) rfl))) (mvT hZ (hw _ (List.mem_of_getElem? (i := 87) rfl))) (notFace_of_selects (args := #[]) (mvT hZ (hw _ (List.mem_of_getElem? (i := 89) rfl)))) (mvT hZ (hw _ (List.mem_of_getElem? (i := 89) rfl))) (mvT hZ (hw _ (List.mem_of_getElem? (i := 88) rfl))) (by decide) (backOf (W := 0) (rm11z l Z a0 hw [] b1 (0 : Int32) T11.heap n0 Zs12 Fepoch_11q rfl) hZ (hw _ (List.mem_of_getElem? (i := 90) rfl)) (hw _ (List.mem_of_getElem? (i := 2) rfl)) (by decide) (by decide)) q13a q13c (g := (mkF m 223 #[.val (.int p0), .val (.int p1), .val (.int p2), .val (.int (1 : Int32)), .val (.int (1 : Int32)), .val (.int md), .val (.int er), .val (.ref b1), .val (.int (0 : Int32)), .val (.int (0 : Int32)), .val (.int (0 : Int32)), .val (.int (0 : Int32)), .val (.int (0 : Int32)), .val (.int (0 : Int32)), .val (.ref rq11)] [(.ref b1)])) rfl (by rw [hml]; rfl) (Steps.refl _) (argsL := []) (rest := []) (lenOf pd_10 rfl) rfl (by show 2 * 0 + _ ≤ _; exact Nat.le_of_eq rfl) (hb hby at_223) (fun _ _ => ⟨rfl, rfl, (by decide : 21 + 0 ≤ _), (by decide : 140 + 0 ≤ _)⟩)
        dsimp only [Pt.U, Pt.locs, Pt.cells, Pt.slots] at X13 l13 y13 z13 st13 hQ13
        subst l13 y13 z13
        obtain ⟨rfl, N13q, e13q⟩ := hQ13
        have N13 := Fr.app N11 N13q
        have pre17 : ∀ t, Steps p.tables e below (T13.setTop (mkF m 228 #[.val (.int p0), .val (.int p1), .val (.int p2), .val (.int (1 : Int32)), .val (.int (1 : Int32)), .val (.int md), .val (.int er), .val (.ref b1), .val (.int (0 : Int32)), .val (.int (0 : Int32)), .val (.int (0 : Int32)), .val (.int (0 : Int32)), .val (.int (0 : Int32)), .val (.int (0 : Int32)), .val (.ref rq11)] [(.int (0 : Int32)), (.int (0 : Int32))])) t → Steps p.tables e below (s₁.setTop (entryFrame m #[(.int p0), (.int p1), (.int p2)] maxLocals)) t := by
          intro t k
          refine pre16 t ?_
          show Steps p.tables e below (T11.setTop (mkF m 221 #[.val (.int p0), .val (.int p1), .val (.int p2), .val (.int (1 : Int32)), .val (.int (1 : Int32)), .val (.int md), .val (.int er), .val (.ref b1), .val (.int (0 : Int32)), .val (.int (0 : Int32)), .val (.int (0 : Int32)), .val (.int (0 : Int32)), .val (.int (0 : Int32)), .val (.int (0 : Int32)), .val (.ref rq11)] [])) _
          refine XS.aload X11.here hx rfl (hb hby at_221) rfl rfl ?_
          show Steps p.tables e below (T11.setTop (mkF m 223 #[.val (.int p0), .val (.int p1), .val (.int p2), .val (.int (1 : Int32)), .val (.int (1 : Int32)), .val (.int md), .val (.int er), .val (.ref b1), .val (.int (0 : Int32)), .val (.int (0 : Int32)), .val (.int (0 : Int32)), .val (.int (0 : Int32)), .val (.int (0 : Int32)), .val (.int (0 : Int32)), .val (.ref rq11)] [(.ref b1)])) _
          refine st13.trans ?_
          show Steps p.tables e below (T13.setTop (mkF m 226 #[.val (.int p0), .val (.int p1), .val (.int p2), .val (.int (1 : Int32)), .val (.int (1 : Int32)), .val (.int md), .val (.int er), .val (.ref b1), .val (.int (0 : Int32)), .val (.int (0 : Int32)), .val (.int (0 : Int32)), .val (.int (0 : Int32)), .val (.int (0 : Int32)), .val (.int (0 : Int32)), .val (.ref rq11)] [(.int (0 : Int32))])) _
          refine XS.iload X13.here hx rfl (hb hby at_226) rfl ?_
          exact k
        have pre18 : ∀ t, Steps p.tables e below (T13.setTop (mkF m 236 #[.val (.int p0), .val (.int p1), .val (.int p2), .val (.int (1 : Int32)), .val (.int (1 : Int32)), .val (.int md), .val (.int er), .val (.ref b1), .val (.int (0 : Int32)), .val (.int (0 : Int32)), .val (.int (0 : Int32)), .val (.int (0 : Int32)), .val (.int (0 : Int32)), .val (.int (0 : Int32)), .val (.ref rq11)] [(.int (0 : Int32)), (.int (0 : Int32))])) t → Steps p.tables e below (s₁.setTop (entryFrame m #[(.int p0), (.int p1), (.int p2)] maxLocals)) t := by
          intro t k
          refine pre17 t ?_
          show Steps p.tables e below (T13.setTop (mkF m 228 #[.val (.int p0), .val (.int p1), .val (.int p2), .val (.int (1 : Int32)), .val (.int (1 : Int32)), .val (.int md), .val (.int er), .val (.ref b1), .val (.int (0 : Int32)), .val (.int (0 : Int32)), .val (.int (0 : Int32)), .val (.int (0 : Int32)), .val (.int (0 : Int32)), .val (.int (0 : Int32)), .val (.ref rq11)] [(.int (0 : Int32)), (.int (0 : Int32))])) _
          refine XS.ifYes X13.here hx rfl (pc0 := 228) (pc' := 235) rfl (hb hby at_228) rfl ((if0 _ _).trans (teq (rfl : (0 : Int32) = (0 : Int32))).1) (by decide) (by decide) ?_
          show Steps p.tables e below (T13.setTop (mkF m 235 #[.val (.int p0), .val (.int p1), .val (.int p2), .val (.int (1 : Int32)), .val (.int (1 : Int32)), .val (.int md), .val (.int er), .val (.ref b1), .val (.int (0 : Int32)), .val (.int (0 : Int32)), .val (.int (0 : Int32)), .val (.int (0 : Int32)), .val (.int (0 : Int32)), .val (.int (0 : Int32)), .val (.ref rq11)] [(.int (0 : Int32))])) _
          refine XS.iconst X13.here hx rfl (hb hby at_235) ?_
          exact k
        obtain ⟨cq14, kq14, q14a, q14b, q14c⟩ := isOf hZ e13q Er11q
        obtain ⟨_, _, ⟨T14, L14, k14, n14⟩, -, X14, ⟨Lc14, hQ14, l14, y14, z14⟩, st14⟩ := X13.virtualBack hx (y := (⟨"com/example/tideline/tideline/session/FetcherSession$Request", "sessionId", "()I"⟩ : MethodName)) (z := (⟨"com/example/tideline/tideline/session/FetcherSession$Request", "sessionId", "()I"⟩ : MethodName)) hown (mvT hZ (hw _ (List.mem_of_getElem? (i := 91) rfl))) (mvT hZ (hw _ (List.mem_of_getElem? (i := 92) rfl))) (notFace_of_selects (args := #[]) (mvT hZ (hw _ (List.mem_of_getElem? (i := 94) rfl)))) (mvT hZ (hw _ (List.mem_of_getElem? (i := 94) rfl))) (mvT hZ (hw _ (List.mem_of_getElem? (i := 93) rfl))) (by decide) (backOf (W := 0) (rm12 l Z a0 hw [] rq11 p0 T11.heap n0 Zs12 RsessionId_11q) hZ (hw _ (List.mem_of_getElem? (i := 95) rfl)) (hw _ (List.mem_of_getElem? (i := 59) rfl)) (by decide) (by decide)) q14a q14c (g := (mkF m 241 #[.val (.int p0), .val (.int p1), .val (.int p2), .val (.int (1 : Int32)), .val (.int (1 : Int32)), .val (.int md), .val (.int er), .val (.ref b1), .val (.int (0 : Int32)), .val (.int (0 : Int32)), .val (.int (0 : Int32)), .val (.int (0 : Int32)), .val (.int (0 : Int32)), .val (.int (0 : Int32)), .val (.ref rq11)] [(.ref rq11)])) rfl (by rw [hml]; rfl) (Steps.refl _) (argsL := []) (rest := []) (lenOf pd_11 rfl) rfl (by show 2 * 0 + _ ≤ _; exact Nat.le_of_eq rfl) (hb hby at_241) (fun _ _ => ⟨rfl, e13q, (by decide : 21 + 0 ≤ _), (by decide : 140 + 0 ≤ _)⟩)
        dsimp only [Pt.U, Pt.locs, Pt.cells, Pt.slots] at X14 l14 y14 z14 st14 hQ14
        subst l14 y14 z14
        obtain ⟨rfl, N14q, e14q⟩ := hQ14
        have N14 := Fr.app N13 N14q
        obtain ⟨cq15, kq15, q15a, q15b, q15c⟩ := isOf hZ e14q Er11q
        obtain ⟨_, _, ⟨T15, L15, k15, n15⟩, -, X15, ⟨Lc15, hQ15, l15, y15, z15⟩, st15⟩ := X14.virtualBack hx (y := (⟨"com/example/tideline/tideline/session/FetcherSession$Request", "epoch", "()I"⟩ : MethodName)) (z := (⟨"com/example/tideline/tideline/session/FetcherSession$Request", "epoch", "()I"⟩ : MethodName)) hown (mvT hZ (hw _ (List.mem_of_getElem? (i := 96) rfl))) (mvT hZ (hw _ (List.mem_of_getElem? (i := 97) rfl))) (notFace_of_selects (args := #[]) (mvT hZ (hw _ (List.mem_of_getElem? (i := 99) rfl)))) (mvT hZ (hw _ (List.mem_of_getElem? (i := 99) rfl))) (mvT hZ (hw _ (List.mem_of_getElem? (i := 98) rfl))) (by decide) (backOf (W := 0) (rm13 l Z a0 hw [] rq11 (0 : Int32) T11.heap n0 Zs12 Repoch_11q) hZ (hw _ (List.mem_of_getElem? (i := 100) rfl)) (hw _ (List.mem_of_getElem? (i := 59) rfl)) (by decide) (by decide)) q15a q15c (g := (mkF m 251 #[.val (.int p0), .val (.int p1), .val (.int p2), .val (.int (1 : Int32)), .val (.int (1 : Int32)), .val (.int md), .val (.int er), .val (.ref b1), .val (.int (0 : Int32)), .val (.int (0 : Int32)), .val (.int (0 : Int32)), .val (.int (0 : Int32)), .val (.int (0 : Int32)), .val (.int (0 : Int32)), .val (.ref rq11)] [(.ref rq11)])) rfl (by rw [hml]; rfl) (Steps.refl _) (argsL := []) (rest := []) (lenOf pd_11 rfl) rfl (by show 2 * 0 + _ ≤ _; exact Nat.le_of_eq rfl) (hb hby at_251) (fun _ _ => ⟨rfl, e14q, (by decide : 21 + 0 ≤ _), (by decide : 140 + 0 ≤ _)⟩)
        dsimp only [Pt.U, Pt.locs, Pt.cells, Pt.slots] at X15 l15 y15 z15 st15 hQ15
        subst l15 y15 z15
        obtain ⟨rfl, N15q, e15q⟩ := hQ15
        have N15 := Fr.app N14 N15q
        obtain ⟨fs, hr, hrun, hended, hW, hsame⟩ := X15.leave (v := some (.int (1 : Int32))) (fun h => by rw [Bd.returns] at h; cases h)
        refine ⟨_, _, pre18 _ ?_, hrun, hended, _, _, rfl, ?_, ⟨_, rfl⟩, hW, hsame.mono (by decide) (by decide)⟩
        · show Steps p.tables e below (T13.setTop (mkF m 236 #[.val (.int p0), .val (.int p1), .val (.int p2), .val (.int (1 : Int32)), .val (.int (1 : Int32)), .val (.int md), .val (.int er), .val (.ref b1), .val (.int (0 : Int32)), .val (.int (0 : Int32)), .val (.int (0 : Int32)), .val (.int (0 : Int32)), .val (.int (0 : Int32)), .val (.int (0 : Int32)), .val (.ref rq11)] [(.int (0 : Int32)), (.int (0 : Int32))])) _
          refine XS.icmpNo X13.here hx rfl (hb hby at_236) rfl (teq (rfl : (0 : Int32) = (0 : Int32))).2 ?_
          show Steps p.tables e below (T13.setTop (mkF m 239 #[.val (.int p0), .val (.int p1), .val (.int p2), .val (.int (1 : Int32)), .val (.int (1 : Int32)), .val (.int md), .val (.int er), .val (.ref b1), .val (.int (0 : Int32)), .val (.int (0 : Int32)), .val (.int (0 : Int32)), .val (.int (0 : Int32)), .val (.int (0 : Int32)), .val (.int (0 : Int32)), .val (.ref rq11)] [])) _
          refine XS.aload X13.here hx rfl (hb hby at_239) rfl rfl ?_
          show Steps p.tables e below (T13.setTop (mkF m 241 #[.val (.int p0), .val (.int p1), .val (.int p2), .val (.int (1 : Int32)), .val (.int (1 : Int32)), .val (.int md), .val (.int er), .val (.ref b1), .val (.int (0 : Int32)), .val (.int (0 : Int32)), .val (.int (0 : Int32)), .val (.int (0 : Int32)), .val (.int (0 : Int32)), .val (.int (0 : Int32)), .val (.ref rq11)] [(.ref rq11)])) _
          refine st14.trans ?_
          show Steps p.tables e below (T14.setTop (mkF m 244 #[.val (.int p0), .val (.int p1), .val (.int p2), .val (.int (1 : Int32)), .val (.int (1 : Int32)), .val (.int md), .val (.int er), .val (.ref b1), .val (.int (0 : Int32)), .val (.int (0 : Int32)), .val (.int (0 : Int32)), .val (.int (0 : Int32)), .val (.int (0 : Int32)), .val (.int (0 : Int32)), .val (.ref rq11)] [(.int p0)])) _
          refine XS.iload X14.here hx rfl (hb hby at_244) rfl ?_
          show Steps p.tables e below (T14.setTop (mkF m 246 #[.val (.int p0), .val (.int p1), .val (.int p2), .val (.int (1 : Int32)), .val (.int (1 : Int32)), .val (.int md), .val (.int er), .val (.ref b1), .val (.int (0 : Int32)), .val (.int (0 : Int32)), .val (.int (0 : Int32)), .val (.int (0 : Int32)), .val (.int (0 : Int32)), .val (.int (0 : Int32)), .val (.ref rq11)] [(.int (0 : Int32)), (.int p0)])) _
          refine XS.icmpNo X14.here hx rfl (hb hby at_246) rfl (teq c88).2 ?_
          show Steps p.tables e below (T14.setTop (mkF m 249 #[.val (.int p0), .val (.int p1), .val (.int p2), .val (.int (1 : Int32)), .val (.int (1 : Int32)), .val (.int md), .val (.int er), .val (.ref b1), .val (.int (0 : Int32)), .val (.int (0 : Int32)), .val (.int (0 : Int32)), .val (.int (0 : Int32)), .val (.int (0 : Int32)), .val (.int (0 : Int32)), .val (.ref rq11)] [])) _
          refine XS.aload X14.here hx rfl (hb hby at_249) rfl rfl ?_
          show Steps p.tables e below (T14.setTop (mkF m 251 #[.val (.int p0), .val (.int p1), .val (.int p2), .val (.int (1 : Int32)), .val (.int (1 : Int32)), .val (.int md), .val (.int er), .val (.ref b1), .val (.int (0 : Int32)), .val (.int (0 : Int32)), .val (.int (0 : Int32)), .val (.int (0 : Int32)), .val (.int (0 : Int32)), .val (.int (0 : Int32)), .val (.ref rq11)] [(.ref rq11)])) _
          refine st15.trans ?_
          show Steps p.tables e below (T15.setTop (mkF m 254 #[.val (.int p0), .val (.int p1), .val (.int p2), .val (.int (1 : Int32)), .val (.int (1 : Int32)), .val (.int md), .val (.int er), .val (.ref b1), .val (.int (0 : Int32)), .val (.int (0 : Int32)), .val (.int (0 : Int32)), .val (.int (0 : Int32)), .val (.int (0 : Int32)), .val (.int (0 : Int32)), .val (.ref rq11)] [(.int (0 : Int32))])) _
          refine XS.iload X15.here hx rfl (hb hby at_254) rfl ?_
          show Steps p.tables e below (T15.setTop (mkF m 256 #[.val (.int p0), .val (.int p1), .val (.int p2), .val (.int (1 : Int32)), .val (.int (1 : Int32)), .val (.int md), .val (.int er), .val (.ref b1), .val (.int (0 : Int32)), .val (.int (0 : Int32)), .val (.int (0 : Int32)), .val (.int (0 : Int32)), .val (.int (0 : Int32)), .val (.int (0 : Int32)), .val (.ref rq11)] [(.int (0 : Int32)), (.int (0 : Int32))])) _
          refine XS.icmpNo X15.here hx rfl (hb hby at_256) rfl (teq (rfl : (0 : Int32) = (0 : Int32))).2 ?_
          show Steps p.tables e below (T15.setTop (mkF m 259 #[.val (.int p0), .val (.int p1), .val (.int p2), .val (.int (1 : Int32)), .val (.int (1 : Int32)), .val (.int md), .val (.int er), .val (.ref b1), .val (.int (0 : Int32)), .val (.int (0 : Int32)), .val (.int (0 : Int32)), .val (.int (0 : Int32)), .val (.int (0 : Int32)), .val (.int (0 : Int32)), .val (.ref rq11)] [])) _
          refine XS.iconst X15.here hx rfl (hb hby at_259) ?_
          show Steps p.tables e below (T15.setTop (mkF m 260 #[.val (.int p0), .val (.int p1), .val (.int p2), .val (.int (1 : Int32)), .val (.int (1 : Int32)), .val (.int md), .val (.int er), .val (.ref b1), .val (.int (0 : Int32)), .val (.int (0 : Int32)), .val (.int (0 : Int32)), .val (.int (0 : Int32)), .val (.int (0 : Int32)), .val (.int (0 : Int32)), .val (.ref rq11)] [(.int (1 : Int32))])) _
          refine XS.goto X15.here hx rfl (pc0 := 260) (pc' := 264) rfl (hb hby at_260) (by decide) (by decide) ?_
          show Steps p.tables e below (T15.setTop (mkF m 264 #[.val (.int p0), .val (.int p1), .val (.int p2), .val (.int (1 : Int32)), .val (.int (1 : Int32)), .val (.int md), .val (.int er), .val (.ref b1), .val (.int (0 : Int32)), .val (.int (0 : Int32)), .val (.int (0 : Int32)), .val (.int (0 : Int32)), .val (.int (0 : Int32)), .val (.int (0 : Int32)), .val (.ref rq11)] [(.int (1 : Int32))])) _
          exact retN X15 hx (t := .boolean) Bd.returns (by simp) (hb hby at_264) hr
        · show Q0 Z p0 p1 p2 h0 n0 _ T15.heap _
          rw [e15q]
          exact ⟨rfl, N15⟩
      · skip
        obtain ⟨rfl, -⟩ := hmo
        have pre19 : ∀ t, Steps p.tables e below (T7.setTop (mkF m 135 #[.val (.int p0), .val (.int p1), .val (.int p2), .val (.int (1 : Int32)), .val (.int (0 : Int32)), .val (.int md), .val (.int er), .val (.ref b1), .val (.int (0 : Int32)), .val (.int (0 : Int32)), .unset, .unset, .unset, .unset, .unset] [])) t → Steps p.tables e below (s₁.setTop (entryFrame m #[(.int p0), (.int p1), (.int p2)] maxLocals)) t := by
          intro t k
          refine pre9 t ?_
          show Steps p.tables e below (T7.setTop (mkF m 110 #[.val (.int p0), .val (.int p1), .val (.int p2), .val (.int (1 : Int32)), .val (.int (0 : Int32)), .val (.int md), .val (.int er), .val (.ref b1), .val (.int (0 : Int32)), .val (.int (0 : Int32)), .unset, .unset, .unset, .unset, .unset] [])) _
          refine XS.iload X7.here hx rfl (hb hby at_110) rfl ?_
          show Steps p.tables e below (T7.setTop (mkF m 112 #[.val (.int p0), .val (.int p1), .val (.int p2), .val (.int (1 : Int32)), .val (.int (0 : Int32)), .val (.int md), .val (.int er), .val (.ref b1), .val (.int (0 : Int32)), .val (.int (0 : Int32)), .unset, .unset, .unset, .unset, .unset] [(.int (0 : Int32))])) _
          refine XS.ifYes X7.here hx rfl (pc0 := 112) (pc' := 135) rfl (hb hby at_112) rfl ((if0 _ _).trans (teq (rfl : (0 : Int32) = (0 : Int32))).1) (by decide) (by decide) ?_
          exact k
        obtain ⟨cq16, kq16, q16a, q16b, q16c⟩ := isOf hZ rfl E7q
        obtain ⟨_, _, ⟨T16, L16, k16, n16⟩, -, X16, ⟨Lc16, hQ16, l16, y16, z16⟩, st16⟩ := X7.virtualBack hx (y := (⟨"com/example/tideline/tideline/session/FetcherSession", "startOver", "(S)Z"⟩ : MethodName)) (z := (⟨"com/example/tideline/tideline/session/FetcherSession", "startOver", "(S)Z"⟩ : MethodName)) hown (mvT hZ (hw _ (List.mem_of_getElem? (i := 81) rfl))) (mvT hZ (hw _ (List.mem_of_getElem? (i := 82) rfl))) (notFace_of_selects (args := #[]) (mvT hZ (hw _ (List.mem_of_getElem? (i := 84) rfl)))) (mvT hZ (hw _ (List.mem_of_getElem? (i := 84) rfl))) (mvT hZ (hw _ (List.mem_of_getElem? (i := 83) rfl))) (by decide) (backOf (W := 0) (rm10z l Z a0 hw [] b1 er p0 (0 : Int32) l2_5 f2_5 (.ref xa3) (.ref rq5) T7.heap n0 Zs8 F0_7q F1_7q F2_7q F3_7q F4_7q F5_7q E7q g_b1 rfl) hZ (hw _ (List.mem_of_getElem? (i := 85) rfl)) (hw _ (List.mem_of_getElem? (i := 2) rfl)) (by decide) (by decide)) q16a q16c (g := (mkF m 139 #[.val (.int p0), .val (.int p1), .val (.int p2), .val (.int (1 : Int32)), .val (.int (0 : Int32)), .val (.int md), .val (.int er), .val (.ref b1), .val (.int (0 : Int32)), .val (.int (0 : Int32)), .unset, .unset, .unset, .unset, .unset] [(.int er), (.ref b1)])) rfl (by rw [hml]; rfl) (Steps.refl _) (argsL := [(.int er)]) (rest := []) (lenOf pd_9 rfl) rfl (by show 2 * 0 + _ ≤ _; exact Nat.le_of_eq rfl) (hb hby at_139) (fun _ _ => ⟨rfl, rfl, (by decide : 14 + 0 ≤ _), (by decide : 94 + 0 ≤ _)⟩)
        dsimp only [Pt.U, Pt.locs, Pt.cells, Pt.slots] at X16 l16 y16 z16 st16 hQ16
        subst l16 y16 z16
        obtain ⟨rfl, N16q, K16q, E16q, F0_16q, F1_16q, F2_16q, F3_16q, F4_16q, F5_16q⟩ := hQ16
        have N16 := Fr.app N7 N16q
        have E_b1_16 := E7q.keep K16q
        have E_rq5_16 := E_rq5_7.keep K16q
        have F_rq5_sessionId_16 := F_rq5_sessionId_7.keep K16q (ninS ne_rq5 nin0)
        have F_rq5_epoch_16 := F_rq5_epoch_7.keep K16q (ninS ne_rq5 nin0)
        have F_rq5_listed_16 := F_rq5_listed_7.keep K16q (ninS ne_rq5 nin0)
        have F_rq5_forgotten_16 := F_rq5_forgotten_7.keep K16q (ninS ne_rq5 nin0)
        have P_l2_5_16 := P_l2_5_7.keep K16q (allS hlt5 all0)
        have P_f2_5_16 := P_f2_5_7.keep K16q (allS hlt5 all0)
        have Zs17 := Nat.le_trans Zs8 K16q.1
        have pre20 : ∀ t, Steps p.tables e below (T16.setTop (mkF m 144 #[.val (.int p0), .val (.int p1), .val (.int p2), .val (.int (1 : Int32)), .val (.int (0 : Int32)), .val (.int md), .val (.int er), .val (.ref b1), .val (.int (0 : Int32)), .val (.int (0 : Int32)), .val (.int (0 : Int32)), .unset, .unset, .unset, .unset] [])) t → Steps p.tables e below (s₁.setTop (entryFrame m #[(.int p0), (.int p1), (.int p2)] maxLocals)) t := by
          intro t k
          refine pre19 t ?_
          show Steps p.tables e below (T7.setTop (mkF m 135 #[.val (.int p0), .val (.int p1), .val (.int p2), .val (.int (1 : Int32)), .val (.int (0 : Int32)), .val (.int md), .val (.int er), .val (.ref b1), .val (.int (0 : Int32)), .val (.int (0 : Int32)), .unset, .unset, .unset, .unset, .unset] [])) _
          refine XS.aload X7.here hx rfl (hb hby at_135) rfl rfl ?_
          show Steps p.tables e below (T7.setTop (mkF m 137 #[.val (.int p0), .val (.int p1), .val (.int p2), .val (.int (1 : Int32)), .val (.int (0 : Int32)), .val (.int md), .val (.int er), .val (.ref b1), .val (.int (0 : Int32)), .val (.int (0 : Int32)), .unset, .unset, .unset, .unset, .unset] [(.ref b1)])) _
          refine XS.iload X7.here hx rfl (hb hby at_137) rfl ?_
          show Steps p.tables e below (T7.setTop (mkF m 139 #[.val (.int p0), .val (.int p1), .val (.int p2), .val (.int (1 : Int32)), .val (.int (0 : Int32)), .val (.int md), .val (.int er), .val (.ref b1), .val (.int (0 : Int32)), .val (.int (0 : Int32)), .unset, .unset, .unset, .unset, .unset] [(.int er), (.ref b1)])) _
          refine st16.trans ?_
          show Steps p.tables e below (T16.setTop (mkF m 142 #[.val (.int p0), .val (.int p1), .val (.int p2), .val (.int (1 : Int32)), .val (.int (0 : Int32)), .val (.int md), .val (.int er), .val (.ref b1), .val (.int (0 : Int32)), .val (.int (0 : Int32)), .unset, .unset, .unset, .unset, .unset] [(.int (0 : Int32))])) _
          refine XS.istore X16.here hx rfl (hb hby at_142) rfl (l' := #[.val (.int p0), .val (.int p1), .val (.int p2), .val (.int (1 : Int32)), .val (.int (0 : Int32)), .val (.int md), .val (.int er), .val (.ref b1), .val (.int (0 : Int32)), .val (.int (0 : Int32)), .val (.int (0 : Int32)), .unset, .unset, .unset, .unset]) rfl ?_
          exact k
        have pre21 : ∀ t, Steps p.tables e below (T16.setTop (mkF m 170 #[.val (.int p0), .val (.int p1), .val (.int p2), .val (.int (1 : Int32)), .val (.int (0 : Int32)), .val (.int md), .val (.int er), .val (.ref b1), .val (.int (0 : Int32)), .val (.int (0 : Int32)), .val (.int (0 : Int32)), .val (.int (0 : Int32)), .unset, .unset, .unset] [])) t → Steps p.tables e below (s₁.setTop (entryFrame m #[(.int p0), (.int p1), (.int p2)] maxLocals)) t := by
          intro t k
          refine pre20 t ?_
          show Steps p.tables e below (T16.setTop (mkF m 144 #[.val (.int p0), .val (.int p1), .val (.int p2), .val (.int (1 : Int32)), .val (.int (0 : Int32)), .val (.int md), .val (.int er), .val (.ref b1), .val (.int (0 : Int32)), .val (.int (0 : Int32)), .val (.int (0 : Int32)), .unset, .unset, .unset, .unset] [])) _
          refine XS.iload X16.here hx rfl (hb hby at_144) rfl ?_
          show Steps p.tables e below (T16.setTop (mkF m 146 #[.val (.int p0), .val (.int p1), .val (.int p2), .val (.int (1 : Int32)), .val (.int (0 : Int32)), .val (.int md), .val (.int er), .val (.ref b1), .val (.int (0 : Int32)), .val (.int (0 : Int32)), .val (.int (0 : Int32)), .unset, .unset, .unset, .unset] [(.int (0 : Int32))])) _
          refine XS.ifYes X16.here hx rfl (pc0 := 146) (pc' := 167) rfl (hb hby at_146) rfl ((if0 _ _).trans (teq (rfl : (0 : Int32) = (0 : Int32))).1) (by decide) (by decide) ?_
          show Steps p.tables e below (T16.setTop (mkF m 167 #[.val (.int p0), .val (.int p1), .val (.int p2), .val (.int (1 : Int32)), .val (.int (0 : Int32)), .val (.int md), .val (.int er), .val (.ref b1), .val (.int (0 : Int32)), .val (.int (0 : Int32)), .val (.int (0 : Int32)), .unset, .unset, .unset, .unset] [])) _
          refine XS.iconst X16.here hx rfl (hb hby at_167) ?_
          show Steps p.tables e below (T16.setTop (mkF m 168 #[.val (.int p0), .val (.int p1), .val (.int p2), .val (.int (1 : Int32)), .val (.int (0 : Int32)), .val (.int md), .val (.int er), .val (.ref b1), .val (.int (0 : Int32)), .val (.int (0 : Int32)), .val (.int (0 : Int32)), .unset, .unset, .unset, .unset] [(.int (0 : Int32))])) _
          refine XS.istore X16.here hx rfl (hb hby at_168) rfl (l' := #[.val (.int p0), .val (.int p1), .val (.int p2), .val (.int (1 : Int32)), .val (.int (0 : Int32)), .val (.int md), .val (.int er), .val (.ref b1), .val (.int (0 : Int32)), .val (.int (0 : Int32)), .val (.int (0 : Int32)), .val (.int (0 : Int32)), .unset, .unset, .unset]) rfl ?_
          exact k
        have pre22 : ∀ t, Steps p.tables e below (T16.setTop (mkF m 194 #[.val (.int p0), .val (.int p1), .val (.int p2), .val (.int (1 : Int32)), .val (.int (0 : Int32)), .val (.int md), .val (.int er), .val (.ref b1), .val (.int (0 : Int32)), .val (.int (0 : Int32)), .val (.int (0 : Int32)), .val (.int (0 : Int32)), .val (.int (0 : Int32)), .unset, .unset] [])) t → Steps p.tables e below (s₁.setTop (entryFrame m #[(.int p0), (.int p1), (.int p2)] maxLocals)) t := by
          intro t k
          refine pre21 t ?_
          show Steps p.tables e below (T16.setTop (mkF m 170 #[.val (.int p0), .val (.int p1), .val (.int p2), .val (.int (1 : Int32)), .val (.int (0 : Int32)), .val (.int md), .val (.int er), .val (.ref b1), .val (.int (0 : Int32)), .val (.int (0 : Int32)), .val (.int (0 : Int32)), .val (.int (0 : Int32)), .unset, .unset, .unset] [])) _
          refine XS.iload X16.here hx rfl (hb hby at_170) rfl ?_
          show Steps p.tables e below (T16.setTop (mkF m 172 #[.val (.int p0), .val (.int p1), .val (.int p2), .val (.int (1 : Int32)), .val (.int (0 : Int32)), .val (.int md), .val (.int er), .val (.ref b1), .val (.int (0 : Int32)), .val (.int (0 : Int32)), .val (.int (0 : Int32)), .val (.int (0 : Int32)), .unset, .unset, .unset] [(.int (0 : Int32))])) _
          refine XS.ifYes X16.here hx rfl (pc0 := 172) (pc' := 191) rfl (hb hby at_172) rfl ((if0 _ _).trans (teq (rfl : (0 : Int32) = (0 : Int32))).1) (by decide) (by decide) ?_
          show Steps p.tables e below (T16.setTop (mkF m 191 #[.val (.int p0), .val (.int p1), .val (.int p2), .val (.int (1 : Int32)), .val (.int (0 : Int32)), .val (.int md), .val (.int er), .val (.ref b1), .val (.int (0 : Int32)), .val (.int (0 : Int32)), .val (.int (0 : Int32)), .val (.int (0 : Int32)), .unset, .unset, .unset] [])) _
          refine XS.iconst X16.here hx rfl (hb hby at_191) ?_
          show Steps p.tables e below (T16.setTop (mkF m 192 #[.val (.int p0), .val (.int p1), .val (.int p2), .val (.int (1 : Int32)), .val (.int (0 : Int32)), .val (.int md), .val (.int er), .val (.ref b1), .val (.int (0 : Int32)), .val (.int (0 : Int32)), .val (.int (0 : Int32)), .val (.int (0 : Int32)), .unset, .unset, .unset] [(.int (0 : Int32))])) _
          refine XS.istore X16.here hx rfl (hb hby at_192) rfl (l' := #[.val (.int p0), .val (.int p1), .val (.int p2), .val (.int (1 : Int32)), .val (.int (0 : Int32)), .val (.int md), .val (.int er), .val (.ref b1), .val (.int (0 : Int32)), .val (.int (0 : Int32)), .val (.int (0 : Int32)), .val (.int (0 : Int32)), .val (.int (0 : Int32)), .unset, .unset]) rfl ?_
          exact k
        have pre23 : ∀ t, Steps p.tables e below (T16.setTop (mkF m 207 #[.val (.int p0), .val (.int p1), .val (.int p2), .val (.int (1 : Int32)), .val (.int (0 : Int32)), .val (.int md), .val (.int er), .val (.ref b1), .val (.int (0 : Int32)), .val (.int (0 : Int32)), .val (.int (0 : Int32)), .val (.int (0 : Int32)), .val (.int (0 : Int32)), .val (.int (0 : Int32)), .unset] [])) t → Steps p.tables e below (s₁.setTop (entryFrame m #[(.int p0), (.int p1), (.int p2)] maxLocals)) t := by
          intro t k
          refine pre22 t ?_
          show Steps p.tables e below (T16.setTop (mkF m 194 #[.val (.int p0), .val (.int p1), .val (.int p2), .val (.int (1 : Int32)), .val (.int (0 : Int32)), .val (.int md), .val (.int er), .val (.ref b1), .val (.int (0 : Int32)), .val (.int (0 : Int32)), .val (.int (0 : Int32)), .val (.int (0 : Int32)), .val (.int (0 : Int32)), .unset, .unset] [])) _
          refine XS.iload X16.here hx rfl (hb hby at_194) rfl ?_
          show Steps p.tables e below (T16.setTop (mkF m 196 #[.val (.int p0), .val (.int p1), .val (.int p2), .val (.int (1 : Int32)), .val (.int (0 : Int32)), .val (.int md), .val (.int er), .val (.ref b1), .val (.int (0 : Int32)), .val (.int (0 : Int32)), .val (.int (0 : Int32)), .val (.int (0 : Int32)), .val (.int (0 : Int32)), .unset, .unset] [(.int (0 : Int32))])) _
          refine XS.ifYes X16.here hx rfl (pc0 := 196) (pc' := 203) rfl (hb hby at_196) rfl ((if0 _ _).trans (teq (rfl : (0 : Int32) = (0 : Int32))).1) (by decide) (by decide) ?_
          show Steps p.tables e below (T16.setTop (mkF m 203 #[.val (.int p0), .val (.int p1), .val (.int p2), .val (.int (1 : Int32)), .val (.int (0 : Int32)), .val (.int md), .val (.int er), .val (.ref b1), .val (.int (0 : Int32)), .val (.int (0 : Int32)), .val (.int (0 : Int32)), .val (.int (0 : Int32)), .val (.int (0 : Int32)), .unset, .unset] [])) _
          refine XS.iload X16.here hx rfl (hb hby at_203) rfl ?_
          show Steps p.tables e below (T16.setTop (mkF m 205 #[.val (.int p0), .val (.int p1), .val (.int p2), .val (.int (1 : Int32)), .val (.int (0 : Int32)), .val (.int md), .val (.int er), .val (.ref b1), .val (.int (0 : Int32)), .val (.int (0 : Int32)), .val (.int (0 : Int32)), .val (.int (0 : Int32)), .val (.int (0 : Int32)), .unset, .unset] [(.int (0 : Int32))])) _
          refine XS.istore X16.here hx rfl (hb hby at_205) rfl (l' := #[.val (.int p0), .val (.int p1), .val (.int p2), .val (.int (1 : Int32)), .val (.int (0 : Int32)), .val (.int md), .val (.int er), .val (.ref b1), .val (.int (0 : Int32)), .val (.int (0 : Int32)), .val (.int (0 : Int32)), .val (.int (0 : Int32)), .val (.int (0 : Int32)), .val (.int (0 : Int32)), .unset]) rfl ?_
          exact k
        obtain ⟨cq18, kq18, q18a, q18b, q18c⟩ := isOf hZ rfl E16q
        obtain ⟨_, _, ⟨T18, L18, k18, n18⟩, -, X18, ⟨Lc18, hQ18, l18, y18, z18⟩, st18⟩ := X16.virtualBack hx (y := (⟨"com/example/tideline/tideline/session/FetcherSession", "next", "()Lcom/example/tideline/tideline/session/FetcherSession$Request;"⟩ : MethodName)) (z := (⟨"com/example/tideline/tideline/session/FetcherSession", "next", "()Lcom/example/tideline/tideline/session/FetcherSession$Request;"⟩ : MethodName)) hown (mvT hZ (hw _ (List.mem_of_getElem? (i := 52) rfl))) (mvT hZ (hw _ (List.mem_of_getElem? (i := 53) rfl))) (notFace_of_selects (args := #[]) (mvT hZ (hw _ (List.mem_of_getElem? (i := 55) rfl)))) (mvT hZ (hw _ (List.mem_of_getElem? (i := 55) rfl))) (mvT hZ (hw _ (List.mem_of_getElem? (i := 54) rfl))) (by decide) (backOf (W := 0) (rm7 l Z a0 hw [] b1 p0 (0 : Int32) l2_5 f2_5 (.ref xa3) (.ref rq5) T16.heap n0 Zs17 F0_16q F1_16q F2_16q F3_16q F4_16q F5_16q E16q g_b1) hZ (hw _ (List.mem_of_getElem? (i := 56) rfl)) (hw _ (List.mem_of_getElem? (i := 2) rfl)) (by decide) (by decide)) q18a q18c (g := (mkF m 209 #[.val (.int p0), .val (.int p1), .val (.int p2), .val (.int (1 : Int32)), .val (.int (0 : Int32)), .val (.int md), .val (.int er), .val (.ref b1), .val (.int (0 : Int32)), .val (.int (0 : Int32)), .val (.int (0 : Int32)), .val (.int (0 : Int32)), .val (.int (0 : Int32)), .val (.int (0 : Int32)), .unset] [(.ref b1)])) rfl (by rw [hml]; rfl) (Steps.refl _) (argsL := []) (rest := []) (lenOf pd_7 rfl) rfl (by show 2 * 0 + _ ≤ _; exact Nat.le_of_eq rfl) (hb hby at_209) (fun _ _ => ⟨rfl, rfl, (by decide : 14 + 7 ≤ _), (by decide : 94 + 46 ≤ _)⟩)
        dsimp only [Pt.U, Pt.locs, Pt.cells, Pt.slots] at X18 l18 y18 z18 st18 hQ18
        subst l18 y18 z18
        obtain ⟨rq18, l2_18, f2_18, x3_18, rfl, N18q, K18q, E18q, Fid_18q, Fepoch_18q, Fheld_18q, Fpending_18q, Flisting_18q, Fforgetting_18q, Pl18q, Pf18q, Er18q, ge18q, RsessionId_18q, Repoch_18q, Rlisted_18q, Rforgotten_18q, hx18q⟩ := hQ18
        have N18 := Fr.app N16 N18q
        have hlt18 : b1 < T16.heap.size := E16q.lt
        have E_b1_18 := E16q.keep K18q
        have P_l2_5_18 := P_l2_5_16.keep K18q (allS hlt5 all0)
        have P_f2_5_18 := P_f2_5_16.keep K18q (allS hlt5 all0)
        have Zs19 := Nat.le_trans Zs17 K18q.1
        have ne_rq18 : rq18 ≠ b1 := fun q => Nat.lt_irrefl _ (Nat.lt_of_lt_of_le (q ▸ hlt18) ge18q)
        have pre24 : ∀ t, Steps p.tables e below (T18.setTop (mkF m 214 #[.val (.int p0), .val (.int p1), .val (.int p2), .val (.int (1 : Int32)), .val (.int (0 : Int32)), .val (.int md), .val (.int er), .val (.ref b1), .val (.int (0 : Int32)), .val (.int (0 : Int32)), .val (.int (0 : Int32)), .val (.int (0 : Int32)), .val (.int (0 : Int32)), .val (.int (0 : Int32)), .val (.ref rq18)] [])) t → Steps p.tables e below (s₁.setTop (entryFrame m #[(.int p0), (.int p1), (.int p2)] maxLocals)) t := by
          intro t k
          refine pre23 t ?_
          show Steps p.tables e below (T16.setTop (mkF m 207 #[.val (.int p0), .val (.int p1), .val (.int p2), .val (.int (1 : Int32)), .val (.int (0 : Int32)), .val (.int md), .val (.int er), .val (.ref b1), .val (.int (0 : Int32)), .val (.int (0 : Int32)), .val (.int (0 : Int32)), .val (.int (0 : Int32)), .val (.int (0 : Int32)), .val (.int (0 : Int32)), .unset] [])) _
          refine XS.aload X16.here hx rfl (hb hby at_207) rfl rfl ?_
          show Steps p.tables e below (T16.setTop (mkF m 209 #[.val (.int p0), .val (.int p1), .val (.int p2), .val (.int (1 : Int32)), .val (.int (0 : Int32)), .val (.int md), .val (.int er), .val (.ref b1), .val (.int (0 : Int32)), .val (.int (0 : Int32)), .val (.int (0 : Int32)), .val (.int (0 : Int32)), .val (.int (0 : Int32)), .val (.int (0 : Int32)), .unset] [(.ref b1)])) _
          refine st18.trans ?_
          show Steps p.tables e below (T18.setTop (mkF m 212 #[.val (.int p0), .val (.int p1), .val (.int p2), .val (.int (1 : Int32)), .val (.int (0 : Int32)), .val (.int md), .val (.int er), .val (.ref b1), .val (.int (0 : Int32)), .val (.int (0 : Int32)), .val (.int (0 : Int32)), .val (.int (0 : Int32)), .val (.int (0 : Int32)), .val (.int (0 : Int32)), .unset] [(.ref rq18)])) _
          refine XS.astore X18.here hx rfl (hb hby at_212) rfl rfl (l' := #[.val (.int p0), .val (.int p1), .val (.int p2), .val (.int (1 : Int32)), .val (.int (0 : Int32)), .val (.int md), .val (.int er), .val (.ref b1), .val (.int (0 : Int32)), .val (.int (0 : Int32)), .val (.int (0 : Int32)), .val (.int (0 : Int32)), .val (.int (0 : Int32)), .val (.int (0 : Int32)), .val (.ref rq18)]) rfl ?_
          exact k
        have pre25 : ∀ t, Steps p.tables e below (T18.setTop (mkF m 221 #[.val (.int p0), .val (.int p1), .val (.int p2), .val (.int (1 : Int32)), .val (.int (0 : Int32)), .val (.int md), .val (.int er), .val (.ref b1), .val (.int (0 : Int32)), .val (.int (0 : Int32)), .val (.int (0 : Int32)), .val (.int (0 : Int32)), .val (.int (0 : Int32)), .val (.int (0 : Int32)), .val (.ref rq18)] [])) t → Steps p.tables e below (s₁.setTop (entryFrame m #[(.int p0), (.int p1), (.int p2)] maxLocals)) t := by
          intro t k
          refine pre24 t ?_
          show Steps p.tables e below (T18.setTop (mkF m 214 #[.val (.int p0), .val (.int p1), .val (.int p2), .val (.int (1 : Int32)), .val (.int (0 : Int32)), .val (.int md), .val (.int er), .val (.ref b1), .val (.int (0 : Int32)), .val (.int (0 : Int32)), .val (.int (0 : Int32)), .val (.int (0 : Int32)), .val (.int (0 : Int32)), .val (.int (0 : Int32)), .val (.ref rq18)] [])) _
          refine XS.iload X18.here hx rfl (hb hby at_214) rfl ?_
          show Steps p.tables e below (T18.setTop (mkF m 216 #[.val (.int p0), .val (.int p1), .val (.int p2), .val (.int (1 : Int32)), .val (.int (0 : Int32)), .val (.int md), .val (.int er), .val (.ref b1), .val (.int (0 : Int32)), .val (.int (0 : Int32)), .val (.int (0 : Int32)), .val (.int (0 : Int32)), .val (.int (0 : Int32)), .val (.int (0 : Int32)), .val (.ref rq18)] [(.int (0 : Int32))])) _
          refine XS.iload X18.here hx rfl (hb hby at_216) rfl ?_
          show Steps p.tables e below (T18.setTop (mkF m 218 #[.val (.int p0), .val (.int p1), .val (.int p2), .val (.int (1 : Int32)), .val (.int (0 : Int32)), .val (.int md), .val (.int er), .val (.ref b1), .val (.int (0 : Int32)), .val (.int (0 : Int32)), .val (.int (0 : Int32)), .val (.int (0 : Int32)), .val (.int (0 : Int32)), .val (.int (0 : Int32)), .val (.ref rq18)] [(.int (0 : Int32)), (.int (0 : Int32))])) _
          refine XS.icmpNo X18.here hx rfl (hb hby at_218) rfl (teq (rfl : (0 : Int32) = (0 : Int32))).2 ?_
          exact k
        obtain ⟨cq20, kq20, q20a, q20b, q20c⟩ := isOf hZ rfl E18q
        obtain ⟨_, _, ⟨T20, L20, k20, n20⟩, -, X20, ⟨Lc20, hQ20, l20, y20, z20⟩, st20⟩ := X18.virtualBack hx (y := (⟨"com/example/tideline/tideline/session/FetcherSession", "incremental", "()Z"⟩ : MethodName)) (z := (⟨"com/example/tideline/tideline/session/FetcherSession", "incremental", "()Z"⟩ : MethodName)) hown (mvT hZ (hw _ (List.mem_of_getElem? (i := 86) rfl))) (mvT hZ (hw _ (List.mem_of_getElem? (i := 87) rfl))) (notFace_of_selects (args := #[]) (mvT hZ (hw _ (List.mem_of_getElem? (i := 89) rfl)))) (mvT hZ (hw _ (List.mem_of_getElem? (i := 89) rfl))) (mvT hZ (hw _ (List.mem_of_getElem? (i := 88) rfl))) (by decide) (backOf (W := 0) (rm11z l Z a0 hw [] b1 (0 : Int32) T18.heap n0 Zs19 Fepoch_18q rfl) hZ (hw _ (List.mem_of_getElem? (i := 90) rfl)) (hw _ (List.mem_of_getElem? (i := 2) rfl)) (by decide) (by decide)) q20a q20c (g := (mkF m 223 #[.val (.int p0), .val (.int p1), .val (.int p2), .val (.int (1 : Int32)), .val (.int (0 : Int32)), .val (.int md), .val (.int er), .val (.ref b1), .val (.int (0 : Int32)), .val (.int (0 : Int32)), .val (.int (0 : Int32)), .val (.int (0 : Int32)), .val (.int (0 : Int32)), .val (.int (0 : Int32)), .val (.ref rq18)] [(.ref b1)])) rfl (by rw [hml]; rfl) (Steps.refl _) (argsL := []) (rest := []) (lenOf pd_10 rfl) rfl (by show 2 * 0 + _ ≤ _; exact Nat.le_of_eq rfl) (hb hby at_223) (fun _ _ => ⟨rfl, rfl, (by decide : 21 + 0 ≤ _), (by decide : 140 + 0 ≤ _)⟩)
        dsimp only [Pt.U, Pt.locs, Pt.cells, Pt.slots] at X20 l20 y20 z20 st20 hQ20
        subst l20 y20 z20
        obtain ⟨rfl, N20q, e20q⟩ := hQ20
        have N20 := Fr.app N18 N20q
        have pre26 : ∀ t, Steps p.tables e below (T20.setTop (mkF m 228 #[.val (.int p0), .val (.int p1), .val (.int p2), .val (.int (1 : Int32)), .val (.int (0 : Int32)), .val (.int md), .val (.int er), .val (.ref b1), .val (.int (0 : Int32)), .val (.int (0 : Int32)), .val (.int (0 : Int32)), .val (.int (0 : Int32)), .val (.int (0 : Int32)), .val (.int (0 : Int32)), .val (.ref rq18)] [(.int (0 : Int32)), (.int (0 : Int32))])) t → Steps p.tables e below (s₁.setTop (entryFrame m #[(.int p0), (.int p1), (.int p2)] maxLocals)) t := by
          intro t k
          refine pre25 t ?_
          show Steps p.tables e below (T18.setTop (mkF m 221 #[.val (.int p0), .val (.int p1), .val (.int p2), .val (.int (1 : Int32)), .val (.int (0 : Int32)), .val (.int md), .val (.int er), .val (.ref b1), .val (.int (0 : Int32)), .val (.int (0 : Int32)), .val (.int (0 : Int32)), .val (.int (0 : Int32)), .val (.int (0 : Int32)), .val (.int (0 : Int32)), .val (.ref rq18)] [])) _
          refine XS.aload X18.here hx rfl (hb hby at_221) rfl rfl ?_
          show Steps p.tables e below (T18.setTop (mkF m 223 #[.val (.int p0), .val (.int p1), .val (.int p2), .val (.int (1 : Int32)), .val (.int (0 : Int32)), .val (.int md), .val (.int er), .val (.ref b1), .val (.int (0 : Int32)), .val (.int (0 : Int32)), .val (.int (0 : Int32)), .val (.int (0 : Int32)), .val (.int (0 : Int32)), .val (.int (0 : Int32)), .val (.ref rq18)] [(.ref b1)])) _
          refine st20.trans ?_
          show Steps p.tables e below (T20.setTop (mkF m 226 #[.val (.int p0), .val (.int p1), .val (.int p2), .val (.int (1 : Int32)), .val (.int (0 : Int32)), .val (.int md), .val (.int er), .val (.ref b1), .val (.int (0 : Int32)), .val (.int (0 : Int32)), .val (.int (0 : Int32)), .val (.int (0 : Int32)), .val (.int (0 : Int32)), .val (.int (0 : Int32)), .val (.ref rq18)] [(.int (0 : Int32))])) _
          refine XS.iload X20.here hx rfl (hb hby at_226) rfl ?_
          exact k
        have pre27 : ∀ t, Steps p.tables e below (T20.setTop (mkF m 236 #[.val (.int p0), .val (.int p1), .val (.int p2), .val (.int (1 : Int32)), .val (.int (0 : Int32)), .val (.int md), .val (.int er), .val (.ref b1), .val (.int (0 : Int32)), .val (.int (0 : Int32)), .val (.int (0 : Int32)), .val (.int (0 : Int32)), .val (.int (0 : Int32)), .val (.int (0 : Int32)), .val (.ref rq18)] [(.int (0 : Int32)), (.int (0 : Int32))])) t → Steps p.tables e below (s₁.setTop (entryFrame m #[(.int p0), (.int p1), (.int p2)] maxLocals)) t := by
          intro t k
          refine pre26 t ?_
          show Steps p.tables e below (T20.setTop (mkF m 228 #[.val (.int p0), .val (.int p1), .val (.int p2), .val (.int (1 : Int32)), .val (.int (0 : Int32)), .val (.int md), .val (.int er), .val (.ref b1), .val (.int (0 : Int32)), .val (.int (0 : Int32)), .val (.int (0 : Int32)), .val (.int (0 : Int32)), .val (.int (0 : Int32)), .val (.int (0 : Int32)), .val (.ref rq18)] [(.int (0 : Int32)), (.int (0 : Int32))])) _
          refine XS.ifYes X20.here hx rfl (pc0 := 228) (pc' := 235) rfl (hb hby at_228) rfl ((if0 _ _).trans (teq (rfl : (0 : Int32) = (0 : Int32))).1) (by decide) (by decide) ?_
          show Steps p.tables e below (T20.setTop (mkF m 235 #[.val (.int p0), .val (.int p1), .val (.int p2), .val (.int (1 : Int32)), .val (.int (0 : Int32)), .val (.int md), .val (.int er), .val (.ref b1), .val (.int (0 : Int32)), .val (.int (0 : Int32)), .val (.int (0 : Int32)), .val (.int (0 : Int32)), .val (.int (0 : Int32)), .val (.int (0 : Int32)), .val (.ref rq18)] [(.int (0 : Int32))])) _
          refine XS.iconst X20.here hx rfl (hb hby at_235) ?_
          exact k
        obtain ⟨cq21, kq21, q21a, q21b, q21c⟩ := isOf hZ e20q Er18q
        obtain ⟨_, _, ⟨T21, L21, k21, n21⟩, -, X21, ⟨Lc21, hQ21, l21, y21, z21⟩, st21⟩ := X20.virtualBack hx (y := (⟨"com/example/tideline/tideline/session/FetcherSession$Request", "sessionId", "()I"⟩ : MethodName)) (z := (⟨"com/example/tideline/tideline/session/FetcherSession$Request", "sessionId", "()I"⟩ : MethodName)) hown (mvT hZ (hw _ (List.mem_of_getElem? (i := 91) rfl))) (mvT hZ (hw _ (List.mem_of_getElem? (i := 92) rfl))) (notFace_of_selects (args := #[]) (mvT hZ (hw _ (List.mem_of_getElem? (i := 94) rfl)))) (mvT hZ (hw _ (List.mem_of_getElem? (i := 94) rfl))) (mvT hZ (hw _ (List.mem_of_getElem? (i := 93) rfl))) (by decide) (backOf (W := 0) (rm12 l Z a0 hw [] rq18 p0 T18.heap n0 Zs19 RsessionId_18q) hZ (hw _ (List.mem_of_getElem? (i := 95) rfl)) (hw _ (List.mem_of_getElem? (i := 59) rfl)) (by decide) (by decide)) q21a q21c (g := (mkF m 241 #[.val (.int p0), .val (.int p1), .val (.int p2), .val (.int (1 : Int32)), .val (.int (0 : Int32)), .val (.int md), .val (.int er), .val (.ref b1), .val (.int (0 : Int32)), .val (.int (0 : Int32)), .val (.int (0 : Int32)), .val (.int (0 : Int32)), .val (.int (0 : Int32)), .val (.int (0 : Int32)), .val (.ref rq18)] [(.ref rq18)])) rfl (by rw [hml]; rfl) (Steps.refl _) (argsL := []) (rest := []) (lenOf pd_11 rfl) rfl (by show 2 * 0 + _ ≤ _; exact Nat.le_of_eq rfl) (hb hby at_241) (fun _ _ => ⟨rfl, e20q, (by decide : 21 + 0 ≤ _), (by decide : 140 + 0 ≤ _)⟩)
        dsimp only [Pt.U, Pt.locs, Pt.cells, Pt.slots] at X21 l21 y21 z21 st21 hQ21
        subst l21 y21 z21
        obtain ⟨rfl, N21q, e21q⟩ := hQ21
        have N21 := Fr.app N20 N21q
        obtain ⟨cq22, kq22, q22a, q22b, q22c⟩ := isOf hZ e21q Er18q
        obtain ⟨_, _, ⟨T22, L22, k22, n22⟩, -, X22, ⟨Lc22, hQ22, l22, y22, z22⟩, st22⟩ := X21.virtualBack hx (y := (⟨"com/example/tideline/tideline/session/FetcherSession$Request", "epoch", "()I"⟩ : MethodName)) (z := (⟨"com/example/tideline/tideline/session/FetcherSession$Request", "epoch", "()I"⟩ : MethodName)) hown (mvT hZ (hw _ (List.mem_of_getElem? (i := 96) rfl))) (mvT hZ (hw _ (List.mem_of_getElem? (i := 97) rfl))) (notFace_of_selects (args := #[]) (mvT hZ (hw _ (List.mem_of_getElem? (i := 99) rfl)))) (mvT hZ (hw _ (List.mem_of_getElem? (i := 99) rfl))) (mvT hZ (hw _ (List.mem_of_getElem? (i := 98) rfl))) (by decide) (backOf (W := 0) (rm13 l Z a0 hw [] rq18 (0 : Int32) T18.heap n0 Zs19 Repoch_18q) hZ (hw _ (List.mem_of_getElem? (i := 100) rfl)) (hw _ (List.mem_of_getElem? (i := 59) rfl)) (by decide) (by decide)) q22a q22c (g := (mkF m 251 #[.val (.int p0), .val (.int p1), .val (.int p2), .val (.int (1 : Int32)), .val (.int (0 : Int32)), .val (.int md), .val (.int er), .val (.ref b1), .val (.int (0 : Int32)), .val (.int (0 : Int32)), .val (.int (0 : Int32)), .val (.int (0 : Int32)), .val (.int (0 : Int32)), .val (.int (0 : Int32)), .val (.ref rq18)] [(.ref rq18)])) rfl (by rw [hml]; rfl) (Steps.refl _) (argsL := []) (rest := []) (lenOf pd_11 rfl) rfl (by show 2 * 0 + _ ≤ _; exact Nat.le_of_eq rfl) (hb hby at_251) (fun _ _ => ⟨rfl, e21q, (by decide : 21 + 0 ≤ _), (by decide : 140 + 0 ≤ _)⟩)
        dsimp only [Pt.U, Pt.locs, Pt.cells, Pt.slots] at X22 l22 y22 z22 st22 hQ22
        subst l22 y22 z22
        obtain ⟨rfl, N22q, e22q⟩ := hQ22
        have N22 := Fr.app N21 N22q
        obtain ⟨fs, hr, hrun, hended, hW, hsame⟩ := X22.leave (v := some (.int (1 : Int32))) (fun h => by rw [Bd.returns] at h; cases h)
        refine ⟨_, _, pre27 _ ?_, hrun, hended, _, _, rfl, ?_, ⟨_, rfl⟩, hW, hsame.mono (by decide) (by decide)⟩
        · show Steps p.tables e below (T20.setTop (mkF m 236 #[.val (.int p0), .val (.int p1), .val (.int p2), .val (.int (1 : Int32)), .val (.int (0 : Int32)), .val (.int md), .val (.int er), .val (.ref b1), .val (.int (0 : Int32)), .val (.int (0 : Int32)), .val (.int (0 : Int32)), .val (.int (0 : Int32)), .val (.int (0 : Int32)), .val (.int (0 : Int32)), .val (.ref rq18)] [(.int (0 : Int32)), (.int (0 : Int32))])) _
          refine XS.icmpNo X20.here hx rfl (hb hby at_236) rfl (teq (rfl : (0 : Int32) = (0 : Int32))).2 ?_
          show Steps p.tables e below (T20.setTop (mkF m 239 #[.val (.int p0), .val (.int p1), .val (.int p2), .val (.int (1 : Int32)), .val (.int (0 : Int32)), .val (.int md), .val (.int er), .val (.ref b1), .val (.int (0 : Int32)), .val (.int (0 : Int32)), .val (.int (0 : Int32)), .val (.int (0 : Int32)), .val (.int (0 : Int32)), .val (.int (0 : Int32)), .val (.ref rq18)] [])) _
          refine XS.aload X20.here hx rfl (hb hby at_239) rfl rfl ?_
          show Steps p.tables e below (T20.setTop (mkF m 241 #[.val (.int p0), .val (.int p1), .val (.int p2), .val (.int (1 : Int32)), .val (.int (0 : Int32)), .val (.int md), .val (.int er), .val (.ref b1), .val (.int (0 : Int32)), .val (.int (0 : Int32)), .val (.int (0 : Int32)), .val (.int (0 : Int32)), .val (.int (0 : Int32)), .val (.int (0 : Int32)), .val (.ref rq18)] [(.ref rq18)])) _
          refine st21.trans ?_
          show Steps p.tables e below (T21.setTop (mkF m 244 #[.val (.int p0), .val (.int p1), .val (.int p2), .val (.int (1 : Int32)), .val (.int (0 : Int32)), .val (.int md), .val (.int er), .val (.ref b1), .val (.int (0 : Int32)), .val (.int (0 : Int32)), .val (.int (0 : Int32)), .val (.int (0 : Int32)), .val (.int (0 : Int32)), .val (.int (0 : Int32)), .val (.ref rq18)] [(.int p0)])) _
          refine XS.iload X21.here hx rfl (hb hby at_244) rfl ?_
          show Steps p.tables e below (T21.setTop (mkF m 246 #[.val (.int p0), .val (.int p1), .val (.int p2), .val (.int (1 : Int32)), .val (.int (0 : Int32)), .val (.int md), .val (.int er), .val (.ref b1), .val (.int (0 : Int32)), .val (.int (0 : Int32)), .val (.int (0 : Int32)), .val (.int (0 : Int32)), .val (.int (0 : Int32)), .val (.int (0 : Int32)), .val (.ref rq18)] [(.int (0 : Int32)), (.int p0)])) _
          refine XS.icmpNo X21.here hx rfl (hb hby at_246) rfl (teq c88).2 ?_
          show Steps p.tables e below (T21.setTop (mkF m 249 #[.val (.int p0), .val (.int p1), .val (.int p2), .val (.int (1 : Int32)), .val (.int (0 : Int32)), .val (.int md), .val (.int er), .val (.ref b1), .val (.int (0 : Int32)), .val (.int (0 : Int32)), .val (.int (0 : Int32)), .val (.int (0 : Int32)), .val (.int (0 : Int32)), .val (.int (0 : Int32)), .val (.ref rq18)] [])) _
          refine XS.aload X21.here hx rfl (hb hby at_249) rfl rfl ?_
          show Steps p.tables e below (T21.setTop (mkF m 251 #[.val (.int p0), .val (.int p1), .val (.int p2), .val (.int (1 : Int32)), .val (.int (0 : Int32)), .val (.int md), .val (.int er), .val (.ref b1), .val (.int (0 : Int32)), .val (.int (0 : Int32)), .val (.int (0 : Int32)), .val (.int (0 : Int32)), .val (.int (0 : Int32)), .val (.int (0 : Int32)), .val (.ref rq18)] [(.ref rq18)])) _
          refine st22.trans ?_
          show Steps p.tables e below (T22.setTop (mkF m 254 #[.val (.int p0), .val (.int p1), .val (.int p2), .val (.int (1 : Int32)), .val (.int (0 : Int32)), .val (.int md), .val (.int er), .val (.ref b1), .val (.int (0 : Int32)), .val (.int (0 : Int32)), .val (.int (0 : Int32)), .val (.int (0 : Int32)), .val (.int (0 : Int32)), .val (.int (0 : Int32)), .val (.ref rq18)] [(.int (0 : Int32))])) _
          refine XS.iload X22.here hx rfl (hb hby at_254) rfl ?_
          show Steps p.tables e below (T22.setTop (mkF m 256 #[.val (.int p0), .val (.int p1), .val (.int p2), .val (.int (1 : Int32)), .val (.int (0 : Int32)), .val (.int md), .val (.int er), .val (.ref b1), .val (.int (0 : Int32)), .val (.int (0 : Int32)), .val (.int (0 : Int32)), .val (.int (0 : Int32)), .val (.int (0 : Int32)), .val (.int (0 : Int32)), .val (.ref rq18)] [(.int (0 : Int32)), (.int (0 : Int32))])) _
          refine XS.icmpNo X22.here hx rfl (hb hby at_256) rfl (teq (rfl : (0 : Int32) = (0 : Int32))).2 ?_
          show Steps p.tables e below (T22.setTop (mkF m 259 #[.val (.int p0), .val (.int p1), .val (.int p2), .val (.int (1 : Int32)), .val (.int (0 : Int32)), .val (.int md), .val (.int er), .val (.ref b1), .val (.int (0 : Int32)), .val (.int (0 : Int32)), .val (.int (0 : Int32)), .val (.int (0 : Int32)), .val (.int (0 : Int32)), .val (.int (0 : Int32)), .val (.ref rq18)] [])) _
          refine XS.iconst X22.here hx rfl (hb hby at_259) ?_
          show Steps p.tables e below (T22.setTop (mkF m 260 #[.val (.int p0), .val (.int p1), .val (.int p2), .val (.int (1 : Int32)), .val (.int (0 : Int32)), .val (.int md), .val (.int er), .val (.ref b1), .val (.int (0 : Int32)), .val (.int (0 : Int32)), .val (.int (0 : Int32)), .val (.int (0 : Int32)), .val (.int (0 : Int32)), .val (.int (0 : Int32)), .val (.ref rq18)] [(.int (1 : Int32))])) _
          refine XS.goto X22.here hx rfl (pc0 := 260) (pc' := 264) rfl (hb hby at_260) (by decide) (by decide) ?_
          show Steps p.tables e below (T22.setTop (mkF m 264 #[.val (.int p0), .val (.int p1), .val (.int p2), .val (.int (1 : Int32)), .val (.int (0 : Int32)), .val (.int md), .val (.int er), .val (.ref b1), .val (.int (0 : Int32)), .val (.int (0 : Int32)), .val (.int (0 : Int32)), .val (.int (0 : Int32)), .val (.int (0 : Int32)), .val (.int (0 : Int32)), .val (.ref rq18)] [(.int (1 : Int32))])) _
          exact retN X22 hx (t := .boolean) Bd.returns (by simp) (hb hby at_264) hr
        · show Q0 Z p0 p1 p2 h0 n0 _ T22.heap _
          rw [e22q]
          exact ⟨rfl, N22⟩
    · skip
      obtain ⟨cq23, kq23, q23a, q23b, q23c⟩ := isOf hZ rfl E5q
      obtain ⟨_, _, ⟨T23, L23, k23, n23⟩, -, X23, ⟨Lc23, hQ23, l23, y23, z23⟩, st23⟩ := X5.virtualBack hx (y := (⟨"com/example/tideline/tideline/session/FetcherSession", "accepted", "(I)V"⟩ : MethodName)) (z := (⟨"com/example/tideline/tideline/session/FetcherSession", "accepted", "(I)V"⟩ : MethodName)) hown (mvT hZ (hw _ (List.mem_of_getElem? (i := 101) rfl))) (mvT hZ (hw _ (List.mem_of_getElem? (i := 102) rfl))) (notFace_of_selects (args := #[]) (mvT hZ (hw _ (List.mem_of_getElem? (i := 104) rfl)))) (mvT hZ (hw _ (List.mem_of_getElem? (i := 104) rfl))) (mvT hZ (hw _ (List.mem_of_getElem? (i := 103) rfl))) (by decide) (backOf (W := 0) (rm14a l Z a0 hw [] b1 p0 (0 : Int32) (0 : Int32) l2_5 f2_5 (.ref xa3) rq5 xb3 T5.heap n0 Zs6 Fepoch_5q Fheld_5q Flisting_5q Fforgetting_5q Fid_5q Fpending_5q E5q g_b1 rfl c88 Er5q Rlisted_5q ne_rq5) hZ (hw _ (List.mem_of_getElem? (i := 105) rfl)) (hw _ (List.mem_of_getElem? (i := 2) rfl)) (by decide) (by decide)) q23a q23c (g := (mkF m 80 #[.val (.int p0), .val (.int p1), .val (.int p2), .val (.int (1 : Int32)), .val (.int mo), .val (.int md), .val (.int er), .val (.ref b1), .unset, .unset, .unset, .unset, .unset, .unset, .unset] [(.int p0), (.ref b1)])) rfl (by rw [hml]; rfl) (Steps.refl _) (argsL := [(.int p0)]) (rest := []) (lenOf pd_8 rfl) rfl (by show 2 * 0 + _ ≤ _; exact Nat.le_of_eq rfl) (hb hby at_80) (fun _ _ => ⟨rfl, rfl, (by decide : 14 + 0 ≤ _), (by decide : 94 + 0 ≤ _)⟩)
      dsimp only [Pt.U, Pt.locs, Pt.cells, Pt.slots] at X23 l23 y23 z23 st23 hQ23
      subst l23 y23 z23
      obtain ⟨rfl, N23q, K23q, E23q, F0_23q, F1_23q, F2_23q, F3_23q, F4_23q, F5_23q⟩ := hQ23
      have N23 := Fr.app N5 N23q
      have E_b1_23 := E5q.keep K23q
      have E_rq5_23 := Er5q.keep K23q
      have F_rq5_sessionId_23 := RsessionId_5q.keep K23q (ninS ne_rq5 nin0)
      have F_rq5_epoch_23 := Repoch_5q.keep K23q (ninS ne_rq5 nin0)
      have F_rq5_listed_23 := Rlisted_5q.keep K23q (ninS ne_rq5 nin0)
      have F_rq5_forgotten_23 := Rforgotten_5q.keep K23q (ninS ne_rq5 nin0)
      have P_l2_5_23 := Pl5q.keep K23q (allS hlt5 all0)
      have P_f2_5_23 := Pf5q.keep K23q (allS hlt5 all0)
      have Zs24 := Nat.le_trans Zs6 K23q.1
      have pre28 : ∀ t, Steps p.tables e below (T23.setTop (mkF m 83 #[.val (.int p0), .val (.int p1), .val (.int p2), .val (.int (1 : Int32)), .val (.int mo), .val (.int md), .val (.int er), .val (.ref b1), .unset, .unset, .unset, .unset, .unset, .unset, .unset] [])) t → Steps p.tables e below (s₁.setTop (entryFrame m #[(.int p0), (.int p1), (.int p2)] maxLocals)) t := by
        intro t k
        refine pre6 t ?_
        show Steps p.tables e below (T5.setTop (mkF m 73 #[.val (.int p0), .val (.int p1), .val (.int p2), .val (.int (1 : Int32)), .val (.int mo), .val (.int md), .val (.int er), .val (.ref b1), .unset, .unset, .unset, .unset, .unset, .unset, .unset] [])) _
        refine XS.iloadN X5.here hx rfl (hb hby at_73) rfl ?_
        show Steps p.tables e below (T5.setTop (mkF m 74 #[.val (.int p0), .val (.int p1), .val (.int p2), .val (.int (1 : Int32)), .val (.int mo), .val (.int md), .val (.int er), .val (.ref b1), .unset, .unset, .unset, .unset, .unset, .unset, .unset] [(.int (1 : Int32))])) _
        refine XS.ifNo X5.here hx rfl (hb hby at_74) rfl ((if0 _ _).trans (feq (by decide : ¬ ((1 : Int32) = (0 : Int32)))).1) ?_
        show Steps p.tables e below (T5.setTop (mkF m 77 #[.val (.int p0), .val (.int p1), .val (.int p2), .val (.int (1 : Int32)), .val (.int mo), .val (.int md), .val (.int er), .val (.ref b1), .unset, .unset, .unset, .unset, .unset, .unset, .unset] [])) _
        refine XS.aload X5.here hx rfl (hb hby at_77) rfl rfl ?_
        show Steps p.tables e below (T5.setTop (mkF m 79 #[.val (.int p0), .val (.int p1), .val (.int p2), .val (.int (1 : Int32)), .val (.int mo), .val (.int md), .val (.int er), .val (.ref b1), .unset, .unset, .unset, .unset, .unset, .unset, .unset] [(.ref b1)])) _
        refine XS.iloadN X5.here hx rfl (hb hby at_79) rfl ?_
        show Steps p.tables e below (T5.setTop (mkF m 80 #[.val (.int p0), .val (.int p1), .val (.int p2), .val (.int (1 : Int32)), .val (.int mo), .val (.int md), .val (.int er), .val (.ref b1), .unset, .unset, .unset, .unset, .unset, .unset, .unset] [(.int p0), (.ref b1)])) _
        refine st23.trans ?_
        exact k
      have pre29 : ∀ t, Steps p.tables e below (T23.setTop (mkF m 98 #[.val (.int p0), .val (.int p1), .val (.int p2), .val (.int (1 : Int32)), .val (.int mo), .val (.int md), .val (.int er), .val (.ref b1), .val (.int (1 : Int32)), .unset, .unset, .unset, .unset, .unset, .unset] [])) t → Steps p.tables e below (s₁.setTop (entryFrame m #[(.int p0), (.int p1), (.int p2)] maxLocals)) t := by
        intro t k
        refine pre28 t ?_
        show Steps p.tables e below (T23.setTop (mkF m 83 #[.val (.int p0), .val (.int p1), .val (.int p2), .val (.int (1 : Int32)), .val (.int mo), .val (.int md), .val (.int er), .val (.ref b1), .unset, .unset, .unset, .unset, .unset, .unset, .unset] [])) _
        refine XS.iloadN X23.here hx rfl (hb hby at_83) rfl ?_
        show Steps p.tables e below (T23.setTop (mkF m 84 #[.val (.int p0), .val (.int p1), .val (.int p2), .val (.int (1 : Int32)), .val (.int mo), .val (.int md), .val (.int er), .val (.ref b1), .unset, .unset, .unset, .unset, .unset, .unset, .unset] [(.int (1 : Int32))])) _
        refine XS.ifNo X23.here hx rfl (hb hby at_84) rfl ((if0 _ _).trans (feq (by decide : ¬ ((1 : Int32) = (0 : Int32)))).1) ?_
        show Steps p.tables e below (T23.setTop (mkF m 87 #[.val (.int p0), .val (.int p1), .val (.int p2), .val (.int (1 : Int32)), .val (.int mo), .val (.int md), .val (.int er), .val (.ref b1), .unset, .unset, .unset, .unset, .unset, .unset, .unset] [])) _
        refine XS.iloadN X23.here hx rfl (hb hby at_87) rfl ?_
        show Steps p.tables e below (T23.setTop (mkF m 88 #[.val (.int p0), .val (.int p1), .val (.int p2), .val (.int (1 : Int32)), .val (.int mo), .val (.int md), .val (.int er), .val (.ref b1), .unset, .unset, .unset, .unset, .unset, .unset, .unset] [(.int p0)])) _
        refine XS.ifNo X23.here hx rfl (hb hby at_88) rfl ((if0 _ _).trans (feq c88).1) ?_
        show Steps p.tables e below (T23.setTop (mkF m 91 #[.val (.int p0), .val (.int p1), .val (.int p2), .val (.int (1 : Int32)), .val (.int mo), .val (.int md), .val (.int er), .val (.ref b1), .unset, .unset, .unset, .unset, .unset, .unset, .unset] [])) _
        refine XS.iconst X23.here hx rfl (hb hby at_91) ?_
        show Steps p.tables e below (T23.setTop (mkF m 92 #[.val (.int p0), .val (.int p1), .val (.int p2), .val (.int (1 : Int32)), .val (.int mo), .val (.int md), .val (.int er), .val (.ref b1), .unset, .unset, .unset, .unset, .unset, .unset, .unset] [(.int (1 : Int32))])) _
        refine XS.goto X23.here hx rfl (pc0 := 92) (pc' := 96) rfl (hb hby at_92) (by decide) (by decide) ?_
        show Steps p.tables e below (T23.setTop (mkF m 96 #[.val (.int p0), .val (.int p1), .val (.int p2), .val (.int (1 : Int32)), .val (.int mo), .val (.int md), .val (.int er), .val (.ref b1), .unset, .unset, .unset, .unset, .unset, .unset, .unset] [(.int (1 : Int32))])) _
        refine XS.istore X23.here hx rfl (hb hby at_96) rfl (l' := #[.val (.int p0), .val (.int p1), .val (.int p2), .val (.int (1 : Int32)), .val (.int mo), .val (.int md), .val (.int er), .val (.ref b1), .val (.int (1 : Int32)), .unset, .unset, .unset, .unset, .unset, .unset]) rfl ?_
        exact k
      have pre30 : ∀ t, Steps p.tables e below (T23.setTop (mkF m 110 #[.val (.int p0), .val (.int p1), .val (.int p2), .val (.int (1 : Int32)), .val (.int mo), .val (.int md), .val (.int er), .val (.ref b1), .val (.int (1 : Int32)), .val (.int (1 : Int32)), .unset, .unset, .unset, .unset, .unset] [])) t → Steps p.tables e below (s₁.setTop (entryFrame m #[(.int p0), (.int p1), (.int p2)] maxLocals)) t := by
        intro t k
        refine pre29 t ?_
        show Steps p.tables e below (T23.setTop (mkF m 98 #[.val (.int p0), .val (.int p1), .val (.int p2), .val (.int (1 : Int32)), .val (.int mo), .val (.int md), .val (.int er), .val (.ref b1), .val (.int (1 : Int32)), .unset, .unset, .unset, .unset, .unset, .unset] [])) _
        refine XS.iload X23.here hx rfl (hb hby at_98) rfl ?_
        show Steps p.tables e below (T23.setTop (mkF m 100 #[.val (.int p0), .val (.int p1), .val (.int p2), .val (.int (1 : Int32)), .val (.int mo), .val (.int md), .val (.int er), .val (.ref b1), .val (.int (1 : Int32)), .unset, .unset, .unset, .unset, .unset, .unset] [(.int (1 : Int32))])) _
        refine XS.ifNo X23.here hx rfl (hb hby at_100) rfl ((if0 _ _).trans (feq (by decide : ¬ ((1 : Int32) = (0 : Int32)))).1) ?_
        show Steps p.tables e below (T23.setTop (mkF m 103 #[.val (.int p0), .val (.int p1), .val (.int p2), .val (.int (1 : Int32)), .val (.int mo), .val (.int md), .val (.int er), .val (.ref b1), .val (.int (1 : Int32)), .unset, .unset, .unset, .unset, .unset, .unset] [])) _
        refine XS.iconst X23.here hx rfl (hb hby at_103) ?_
        show Steps p.tables e below (T23.setTop (mkF m 104 #[.val (.int p0), .val (.int p1), .val (.int p2), .val (.int (1 : Int32)), .val (.int mo), .val (.int md), .val (.int er), .val (.ref b1), .val (.int (1 : Int32)), .unset, .unset, .unset, .unset, .unset, .unset] [(.int (1 : Int32))])) _
        refine XS.goto X23.here hx rfl (pc0 := 104) (pc' := 108) rfl (hb hby at_104) (by decide) (by decide) ?_
        show Steps p.tables e below (T23.setTop (mkF m 108 #[.val (.int p0), .val (.int p1), .val (.int p2), .val (.int (1 : Int32)), .val (.int mo), .val (.int md), .val (.int er), .val (.ref b1), .val (.int (1 : Int32)), .unset, .unset, .unset, .unset, .unset, .unset] [(.int (1 : Int32))])) _
        refine XS.istore X23.here hx rfl (hb hby at_108) rfl (l' := #[.val (.int p0), .val (.int p1), .val (.int p2), .val (.int (1 : Int32)), .val (.int mo), .val (.int md), .val (.int er), .val (.ref b1), .val (.int (1 : Int32)), .val (.int (1 : Int32)), .unset, .unset, .unset, .unset, .unset]) rfl ?_
        exact k
      rcases hb_mo with hmo | hmo
      · skip
        obtain ⟨rfl, -⟩ := hmo
        have pre31 : ∀ t, Steps p.tables e below (T23.setTop (mkF m 120 #[.val (.int p0), .val (.int p1), .val (.int p2), .val (.int (1 : Int32)), .val (.int (1 : Int32)), .val (.int md), .val (.int er), .val (.ref b1), .val (.int (1 : Int32)), .val (.int (1 : Int32)), .unset, .unset, .unset, .unset, .unset] [])) t → Steps p.tables e below (s₁.setTop (entryFrame m #[(.int p0), (.int p1), (.int p2)] maxLocals)) t := by
          intro t k
          refine pre30 t ?_
          show Steps p.tables e below (T23.setTop (mkF m 110 #[.val (.int p0), .val (.int p1), .val (.int p2), .val (.int (1 : Int32)), .val (.int (1 : Int32)), .val (.int md), .val (.int er), .val (.ref b1), .val (.int (1 : Int32)), .val (.int (1 : Int32)), .unset, .unset, .unset, .unset, .unset] [])) _
          refine XS.iload X23.here hx rfl (hb hby at_110) rfl ?_
          show Steps p.tables e below (T23.setTop (mkF m 112 #[.val (.int p0), .val (.int p1), .val (.int p2), .val (.int (1 : Int32)), .val (.int (1 : Int32)), .val (.int md), .val (.int er), .val (.ref b1), .val (.int (1 : Int32)), .val (.int (1 : Int32)), .unset, .unset, .unset, .unset, .unset] [(.int (1 : Int32))])) _
          refine XS.ifNo X23.here hx rfl (hb hby at_112) rfl ((if0 _ _).trans (feq (by decide : ¬ ((1 : Int32) = (0 : Int32)))).1) ?_
          show Steps p.tables e below (T23.setTop (mkF m 115 #[.val (.int p0), .val (.int p1), .val (.int p2), .val (.int (1 : Int32)), .val (.int (1 : Int32)), .val (.int md), .val (.int er), .val (.ref b1), .val (.int (1 : Int32)), .val (.int (1 : Int32)), .unset, .unset, .unset, .unset, .unset] [])) _
          refine XS.iload X23.here hx rfl (hb hby at_115) rfl ?_
          show Steps p.tables e below (T23.setTop (mkF m 117 #[.val (.int p0), .val (.int p1), .val (.int p2), .val (.int (1 : Int32)), .val (.int (1 : Int32)), .val (.int md), .val (.int er), .val (.ref b1), .val (.int (1 : Int32)), .val (.int (1 : Int32)), .unset, .unset, .unset, .unset, .unset] [(.int (1 : Int32))])) _
          refine XS.ifNo X23.here hx rfl (hb hby at_117) rfl ((if0 _ _).trans (feq (by decide : ¬ ((1 : Int32) = (0 : Int32)))).1) ?_
          exact k
        obtain ⟨cq25, kq25, q25a, q25b, q25c⟩ := isOf hZ rfl E23q
        obtain ⟨_, _, ⟨T25, L25, k25, n25⟩, -, X25, ⟨Lc25, hQ25, l25, y25, z25⟩, st25⟩ := X23.virtualBack hx (y := (⟨"com/example/tideline/tideline/session/FetcherSession", "next", "()Lcom/example/tideline/tideline/session/FetcherSession$Request;"⟩ : MethodName)) (z := (⟨"com/example/tideline/tideline/session/FetcherSession", "next", "()Lcom/example/tideline/tideline/session/FetcherSession$Request;"⟩ : MethodName)) hown (mvT hZ (hw _ (List.mem_of_getElem? (i := 52) rfl))) (mvT hZ (hw _ (List.mem_of_getElem? (i := 53) rfl))) (notFace_of_selects (args := #[]) (mvT hZ (hw _ (List.mem_of_getElem? (i := 55) rfl)))) (mvT hZ (hw _ (List.mem_of_getElem? (i := 55) rfl))) (mvT hZ (hw _ (List.mem_of_getElem? (i := 54) rfl))) (by decide) (backOf (W := 0) (rm7 l Z a0 hw [] b1 p0 (1 : Int32) l2_5 f2_5 (.ref xb3) (.ref rq5) T23.heap n0 Zs24 F0_23q F1_23q F2_23q F3_23q F4_23q F5_23q E23q g_b1) hZ (hw _ (List.mem_of_getElem? (i := 56) rfl)) (hw _ (List.mem_of_getElem? (i := 2) rfl)) (by decide) (by decide)) q25a q25c (g := (mkF m 122 #[.val (.int p0), .val (.int p1), .val (.int p2), .val (.int (1 : Int32)), .val (.int (1 : Int32)), .val (.int md), .val (.int er), .val (.ref b1), .val (.int (1 : Int32)), .val (.int (1 : Int32)), .unset, .unset, .unset, .unset, .unset] [(.ref b1)])) rfl (by rw [hml]; rfl) (Steps.refl _) (argsL := []) (rest := []) (lenOf pd_7 rfl) rfl (by show 2 * 0 + _ ≤ _; exact Nat.le_of_eq rfl) (hb hby at_122) (fun _ _ => ⟨rfl, rfl, (by decide : 14 + 7 ≤ _), (by decide : 94 + 46 ≤ _)⟩)
        dsimp only [Pt.U, Pt.locs, Pt.cells, Pt.slots] at X25 l25 y25 z25 st25 hQ25
        subst l25 y25 z25
        obtain ⟨rq25, l2_25, f2_25, x3_25, rfl, N25q, K25q, E25q, Fid_25q, Fepoch_25q, Fheld_25q, Fpending_25q, Flisting_25q, Fforgetting_25q, Pl25q, Pf25q, Er25q, ge25q, RsessionId_25q, Repoch_25q, Rlisted_25q, Rforgotten_25q, hx25q⟩ := hQ25
        have N25 := Fr.app N23 N25q
        have hlt25 : b1 < T23.heap.size := E23q.lt
        have E_b1_25 := E23q.keep K25q
        have P_l2_5_25 := P_l2_5_23.keep K25q (allS hlt5 all0)
        have P_f2_5_25 := P_f2_5_23.keep K25q (allS hlt5 all0)
        have Zs26 := Nat.le_trans Zs24 K25q.1
        have ne_rq25 : rq25 ≠ b1 := fun q => Nat.lt_irrefl _ (Nat.lt_of_lt_of_le (q ▸ hlt25) ge25q)
        obtain rfl : f2_5 = x3_25 := (hx25q (by decide)).symm
        have pre32 : ∀ t, Steps p.tables e below (T25.setTop (mkF m 126 #[.val (.int p0), .val (.int p1), .val (.int p2), .val (.int (1 : Int32)), .val (.int (1 : Int32)), .val (.int md), .val (.int er), .val (.ref b1), .val (.int (1 : Int32)), .val (.int (1 : Int32)), .unset, .unset, .unset, .unset, .unset] [])) t → Steps p.tables e below (s₁.setTop (entryFrame m #[(.int p0), (.int p1), (.int p2)] maxLocals)) t := by
          intro t k
          refine pre31 t ?_
          show Steps p.tables e below (T23.setTop (mkF m 120 #[.val (.int p0), .val (.int p1), .val (.int p2), .val (.int (1 : Int32)), .val (.int (1 : Int32)), .val (.int md), .val (.int er), .val (.ref b1), .val (.int (1 : Int32)), .val (.int (1 : Int32)), .unset, .unset, .unset, .unset, .unset] [])) _
          refine XS.aload X23.here hx rfl (hb hby at_120) rfl rfl ?_
          show Steps p.tables e below (T23.setTop (mkF m 122 #[.val (.int p0), .val (.int p1), .val (.int p2), .val (.int (1 : Int32)), .val (.int (1 : Int32)), .val (.int md), .val (.int er), .val (.ref b1), .val (.int (1 : Int32)), .val (.int (1 : Int32)), .unset, .unset, .unset, .unset, .unset] [(.ref b1)])) _
          refine st25.trans ?_
          show Steps p.tables e below (T25.setTop (mkF m 125 #[.val (.int p0), .val (.int p1), .val (.int p2), .val (.int (1 : Int32)), .val (.int (1 : Int32)), .val (.int md), .val (.int er), .val (.ref b1), .val (.int (1 : Int32)), .val (.int (1 : Int32)), .unset, .unset, .unset, .unset, .unset] [(.ref rq25)])) _
          refine XS.pop X25.here hx rfl (hb hby at_125) rfl rfl ?_
          exact k
        obtain ⟨cq27, kq27, q27a, q27b, q27c⟩ := isOf hZ rfl E25q
        obtain ⟨_, _, ⟨T27, L27, k27, n27⟩, -, X27, ⟨Lc27, hQ27, l27, y27, z27⟩, st27⟩ := X25.virtualBack hx (y := (⟨"com/example/tideline/tideline/session/FetcherSession", "accepted", "(I)V"⟩ : MethodName)) (z := (⟨"com/example/tideline/tideline/session/FetcherSession", "accepted", "(I)V"⟩ : MethodName)) hown (mvT hZ (hw _ (List.mem_of_getElem? (i := 101) rfl))) (mvT hZ (hw _ (List.mem_of_getElem? (i := 102) rfl))) (notFace_of_selects (args := #[]) (mvT hZ (hw _ (List.mem_of_getElem? (i := 104) rfl)))) (mvT hZ (hw _ (List.mem_of_getElem? (i := 104) rfl))) (mvT hZ (hw _ (List.mem_of_getElem? (i := 103) rfl))) (by decide) (backOf (W := 0) (rm14b l Z a0 hw [] b1 p1 p0 (1 : Int32) l2_25 f2_25 (.ref xb3) rq25 l2_5 f2_5 xb3 (T3.heap.size) T25.heap n0 Zs26 Fepoch_25q Fheld_25q Flisting_25q Fforgetting_25q Fid_25q Fpending_25q E25q g_b1 (by decide) (by decide) Er25q Rlisted_25q Rforgotten_25q ne_rq25 P_l2_5_25 P_f2_5_25 hlt5) hZ (hw _ (List.mem_of_getElem? (i := 105) rfl)) (hw _ (List.mem_of_getElem? (i := 2) rfl)) (by decide) (by decide)) q27a q27c (g := (mkF m 129 #[.val (.int p0), .val (.int p1), .val (.int p2), .val (.int (1 : Int32)), .val (.int (1 : Int32)), .val (.int md), .val (.int er), .val (.ref b1), .val (.int (1 : Int32)), .val (.int (1 : Int32)), .unset, .unset, .unset, .unset, .unset] [(.int p1), (.ref b1)])) rfl (by rw [hml]; rfl) (Steps.refl _) (argsL := [(.int p1)]) (rest := []) (lenOf pd_8 rfl) rfl (by show 2 * 0 + _ ≤ _; exact Nat.le_of_eq rfl) (hb hby at_129) (fun _ _ => ⟨rfl, rfl, (by decide : 21 + 4 ≤ _), (by decide : 140 + 4 ≤ _)⟩)
        dsimp only [Pt.U, Pt.locs, Pt.cells, Pt.slots] at X27 l27 y27 z27 st27 hQ27
        subst l27 y27 z27
        obtain ⟨rfl, N27q, K27q, E27q, F0_27q, F1_27q, F2_27q, F3_27q, F4_27q, F5_27q⟩ := hQ27
        have N27 := Fr.app N25 N27q
        have E_b1_27 := E25q.keep K27q
        have P_l2_5_27 := P_l2_5_25.keep K27q (allS hlt5 all0)
        have P_f2_5_27 := P_f2_5_25.keep K27q (allS hlt5 all0)
        have E_rq25_27 := Er25q.keep K27q
        have F_rq25_sessionId_27 := RsessionId_25q.keep K27q (ninS ne_rq25 nin0)
        have F_rq25_epoch_27 := Repoch_25q.keep K27q (ninS ne_rq25 nin0)
        have F_rq25_listed_27 := Rlisted_25q.keep K27q (ninS ne_rq25 nin0)
        have F_rq25_forgotten_27 := Rforgotten_25q.keep K27q (ninS ne_rq25 nin0)
        have P_l2_25_27 := Pl25q.keep K27q (allS hlt25 all0)
        have P_f2_25_27 := Pf25q.keep K27q (allS hlt25 all0)
        have Zs28 := Nat.le_trans Zs26 K27q.1
        have pre33 : ∀ t, Steps p.tables e below (T27.setTop (mkF m 135 #[.val (.int p0), .val (.int p1), .val (.int p2), .val (.int (1 : Int32)), .val (.int (1 : Int32)), .val (.int md), .val (.int er), .val (.ref b1), .val (.int (1 : Int32)), .val (.int (2 : Int32)), .unset, .unset, .unset, .unset, .unset] [])) t → Steps p.tables e below (s₁.setTop (entryFrame m #[(.int p0), (.int p1), (.int p2)] maxLocals)) t := by
          intro t k
          refine pre32 t ?_
          show Steps p.tables e below (T25.setTop (mkF m 126 #[.val (.int p0), .val (.int p1), .val (.int p2), .val (.int (1 : Int32)), .val (.int (1 : Int32)), .val (.int md), .val (.int er), .val (.ref b1), .val (.int (1 : Int32)), .val (.int (1 : Int32)), .unset, .unset, .unset, .unset, .unset] [])) _
          refine XS.aload X25.here hx rfl (hb hby at_126) rfl rfl ?_
          show Steps p.tables e below (T25.setTop (mkF m 128 #[.val (.int p0), .val (.int p1), .val (.int p2), .val (.int (1 : Int32)), .val (.int (1 : Int32)), .val (.int md), .val (.int er), .val (.ref b1), .val (.int (1 : Int32)), .val (.int (1 : Int32)), .unset, .unset, .unset, .unset, .unset] [(.ref b1)])) _
          refine XS.iloadN X25.here hx rfl (hb hby at_128) rfl ?_
          show Steps p.tables e below (T25.setTop (mkF m 129 #[.val (.int p0), .val (.int p1), .val (.int p2), .val (.int (1 : Int32)), .val (.int (1 : Int32)), .val (.int md), .val (.int er), .val (.ref b1), .val (.int (1 : Int32)), .val (.int (1 : Int32)), .unset, .unset, .unset, .unset, .unset] [(.int p1), (.ref b1)])) _
          refine st27.trans ?_
          show Steps p.tables e below (T27.setTop (mkF m 132 #[.val (.int p0), .val (.int p1), .val (.int p2), .val (.int (1 : Int32)), .val (.int (1 : Int32)), .val (.int md), .val (.int er), .val (.ref b1), .val (.int (1 : Int32)), .val (.int (1 : Int32)), .unset, .unset, .unset, .unset, .unset] [])) _
          refine XS.iconst X27.here hx rfl (hb hby at_132) ?_
          show Steps p.tables e below (T27.setTop (mkF m 133 #[.val (.int p0), .val (.int p1), .val (.int p2), .val (.int (1 : Int32)), .val (.int (1 : Int32)), .val (.int md), .val (.int er), .val (.ref b1), .val (.int (1 : Int32)), .val (.int (1 : Int32)), .unset, .unset, .unset, .unset, .unset] [(.int (2 : Int32))])) _
          refine XS.istore X27.here hx rfl (hb hby at_133) rfl (l' := #[.val (.int p0), .val (.int p1), .val (.int p2), .val (.int (1 : Int32)), .val (.int (1 : Int32)), .val (.int md), .val (.int er), .val (.ref b1), .val (.int (1 : Int32)), .val (.int (2 : Int32)), .unset, .unset, .unset, .unset, .unset]) rfl ?_
          exact k
        by_cases h70 : er = (70 : Int32)
        · skip
          obtain ⟨cq29, kq29, q29a, q29b, q29c⟩ := isOf hZ rfl E27q
          obtain ⟨_, _, ⟨T29, L29, k29, n29⟩, -, X29, ⟨Lc29, hQ29, l29, y29, z29⟩, st29⟩ := X27.virtualBack hx (y := (⟨"com/example/tideline/tideline/session/FetcherSession", "startOver", "(S)Z"⟩ : MethodName)) (z := (⟨"com/example/tideline/tideline/session/FetcherSession", "startOver", "(S)Z"⟩ : MethodName)) hown (mvT hZ (hw _ (List.mem_of_getElem? (i := 81) rfl))) (mvT hZ (hw _ (List.mem_of_getElem? (i := 82) rfl))) (notFace_of_selects (args := #[]) (mvT hZ (hw _ (List.mem_of_getElem? (i := 84) rfl)))) (mvT hZ (hw _ (List.mem_of_getElem? (i := 84) rfl))) (mvT hZ (hw _ (List.mem_of_getElem? (i := 83) rfl))) (by decide) (backOf (W := 0) (rm10a l Z a0 hw [] b1 er p0 ((1 : Int32) + (1 : Int32)) l2_25 f2_25 (.ref xb3) (.ref rq25) T27.heap n0 Zs28 F0_27q F1_27q F2_27q F3_27q F4_27q F5_27q E27q g_b1 (by decide) h70) hZ (hw _ (List.mem_of_getElem? (i := 85) rfl)) (hw _ (List.mem_of_getElem? (i := 2) rfl)) (by decide) (by decide)) q29a q29c (g := (mkF m 139 #[.val (.int p0), .val (.int p1), .val (.int p2), .val (.int (1 : Int32)), .val (.int (1 : Int32)), .val (.int md), .val (.int er), .val (.ref b1), .val (.int (1 : Int32)), .val (.int (2 : Int32)), .unset, .unset, .unset, .unset, .unset] [(.int er), (.ref b1)])) rfl (by rw [hml]; rfl) (Steps.refl _) (argsL := [(.int er)]) (rest := []) (lenOf pd_9 rfl) rfl (by show 2 * 0 + _ ≤ _; exact Nat.le_of_eq rfl) (hb hby at_139) (fun _ _ => ⟨rfl, rfl, (by decide : 25 + 0 ≤ _), (by decide : 144 + 0 ≤ _)⟩)
          dsimp only [Pt.U, Pt.locs, Pt.cells, Pt.slots] at X29 l29 y29 z29 st29 hQ29
          subst l29 y29 z29
          obtain ⟨rfl, N29q, K29q, E29q, F0_29q, F1_29q, F2_29q, F3_29q, F4_29q, F5_29q⟩ := hQ29
          have N29 := Fr.app N27 N29q
          have E_b1_29 := E27q.keep K29q
          have P_l2_5_29 := P_l2_5_27.keep K29q (allS hlt5 all0)
          have P_f2_5_29 := P_f2_5_27.keep K29q (allS hlt5 all0)
          have E_rq25_29 := E_rq25_27.keep K29q
          have F_rq25_sessionId_29 := F_rq25_sessionId_27.keep K29q (ninS ne_rq25 nin0)
          have F_rq25_epoch_29 := F_rq25_epoch_27.keep K29q (ninS ne_rq25 nin0)
          have F_rq25_listed_29 := F_rq25_listed_27.keep K29q (ninS ne_rq25 nin0)
          have F_rq25_forgotten_29 := F_rq25_forgotten_27.keep K29q (ninS ne_rq25 nin0)
          have P_l2_25_29 := P_l2_25_27.keep K29q (allS hlt25 all0)
          have P_f2_25_29 := P_f2_25_27.keep K29q (allS hlt25 all0)
          have Zs30 := Nat.le_trans Zs28 K29q.1
          have pre34 : ∀ t, Steps p.tables e below (T29.setTop (mkF m 144 #[.val (.int p0), .val (.int p1), .val (.int p2), .val (.int (1 : Int32)), .val (.int (1 : Int32)), .val (.int md), .val (.int er), .val (.ref b1), .val (.int (1 : Int32)), .val (.int (2 : Int32)), .val (.int (1 : Int32)), .unset, .unset, .unset, .unset] [])) t → Steps p.tables e below (s₁.setTop (entryFrame m #[(.int p0), (.int p1), (.int p2)] maxLocals)) t := by
            intro t k
            refine pre33 t ?_
            show Steps p.tables e below (T27.setTop (mkF m 135 #[.val (.int p0), .val (.int p1), .val (.int p2), .val (.int (1 : Int32)), .val (.int (1 : Int32)), .val (.int md), .val (.int er), .val (.ref b1), .val (.int (1 : Int32)), .val (.int (2 : Int32)), .unset, .unset, .unset, .unset, .unset] [])) _
            refine XS.aload X27.here hx rfl (hb hby at_135) rfl rfl ?_
            show Steps p.tables e below (T27.setTop (mkF m 137 #[.val (.int p0), .val (.int p1), .val (.int p2), .val (.int (1 : Int32)), .val (.int (1 : Int32)), .val (.int md), .val (.int er), .val (.ref b1), .val (.int (1 : Int32)), .val (.int (2 : Int32)), .unset, .unset, .unset, .unset, .unset] [(.ref b1)])) _
            refine XS.iload X27.here hx rfl (hb hby at_137) rfl ?_
            show Steps p.tables e below (T27.setTop (mkF m 139 #[.val (.int p0), .val (.int p1), .val (.int p2), .val (.int (1 : Int32)), .val (.int (1 : Int32)), .val (.int md), .val (.int er), .val (.ref b1), .val (.int (1 : Int32)), .val (.int (2 : Int32)), .unset, .unset, .unset, .unset, .unset] [(.int er), (.ref b1)])) _
            refine st29.trans ?_
            show Steps p.tables e below (T29.setTop (mkF m 142 #[.val (.int p0), .val (.int p1), .val (.int p2), .val (.int (1 : Int32)), .val (.int (1 : Int32)), .val (.int md), .val (.int er), .val (.ref b1), .val (.int (1 : Int32)), .val (.int (2 : Int32)), .unset, .unset, .unset, .unset, .unset] [(.int (1 : Int32))])) _
            refine XS.istore X29.here hx rfl (hb hby at_142) rfl (l' := #[.val (.int p0), .val (.int p1), .val (.int p2), .val (.int (1 : Int32)), .val (.int (1 : Int32)), .val (.int md), .val (.int er), .val (.ref b1), .val (.int (1 : Int32)), .val (.int (2 : Int32)), .val (.int (1 : Int32)), .unset, .unset, .unset, .unset]) rfl ?_
            exact k
          have pre35 : ∀ t, Steps p.tables e below (T29.setTop (mkF m 170 #[.val (.int p0), .val (.int p1), .val (.int p2), .val (.int (1 : Int32)), .val (.int (1 : Int32)), .val (.int md), .val (.int er), .val (.ref b1), .val (.int (1 : Int32)), .val (.int (2 : Int32)), .val (.int (1 : Int32)), .val (.int (1 : Int32)), .unset, .unset, .unset] [])) t → Steps p.tables e below (s₁.setTop (entryFrame m #[(.int p0), (.int p1), (.int p2)] maxLocals)) t := by
            intro t k
            refine pre34 t ?_
            show Steps p.tables e below (T29.setTop (mkF m 144 #[.val (.int p0), .val (.int p1), .val (.int p2), .val (.int (1 : Int32)), .val (.int (1 : Int32)), .val (.int md), .val (.int er), .val (.ref b1), .val (.int (1 : Int32)), .val (.int (2 : Int32)), .val (.int (1 : Int32)), .unset, .unset, .unset, .unset] [])) _
            refine XS.iload X29.here hx rfl (hb hby at_144) rfl ?_
            show Steps p.tables e below (T29.setTop (mkF m 146 #[.val (.int p0), .val (.int p1), .val (.int p2), .val (.int (1 : Int32)), .val (.int (1 : Int32)), .val (.int md), .val (.int er), .val (.ref b1), .val (.int (1 : Int32)), .val (.int (2 : Int32)), .val (.int (1 : Int32)), .unset, .unset, .unset, .unset] [(.int (1 : Int32))])) _
            refine XS.ifNo X29.here hx rfl (hb hby at_146) rfl ((if0 _ _).trans (feq (by decide : ¬ ((1 : Int32) = (0 : Int32)))).1) ?_
            show Steps p.tables e below (T29.setTop (mkF m 149 #[.val (.int p0), .val (.int p1), .val (.int p2), .val (.int (1 : Int32)), .val (.int (1 : Int32)), .val (.int md), .val (.int er), .val (.ref b1), .val (.int (1 : Int32)), .val (.int (2 : Int32)), .val (.int (1 : Int32)), .unset, .unset, .unset, .unset] [])) _
            refine XS.iload X29.here hx rfl (hb hby at_149) rfl ?_
            show Steps p.tables e below (T29.setTop (mkF m 151 #[.val (.int p0), .val (.int p1), .val (.int p2), .val (.int (1 : Int32)), .val (.int (1 : Int32)), .val (.int md), .val (.int er), .val (.ref b1), .val (.int (1 : Int32)), .val (.int (2 : Int32)), .val (.int (1 : Int32)), .unset, .unset, .unset, .unset] [(.int er)])) _
            refine XS.bipush X29.here hx rfl (hb hby at_151) ?_
            show Steps p.tables e below (T29.setTop (mkF m 153 #[.val (.int p0), .val (.int p1), .val (.int p2), .val (.int (1 : Int32)), .val (.int (1 : Int32)), .val (.int md), .val (.int er), .val (.ref b1), .val (.int (1 : Int32)), .val (.int (2 : Int32)), .val (.int (1 : Int32)), .unset, .unset, .unset, .unset] [(.int (70 : Int32)), (.int er)])) _
            refine XS.icmpYes X29.here hx rfl (pc0 := 153) (pc' := 163) rfl (hb hby at_153) rfl (teq h70).1 (by decide) (by decide) ?_
            show Steps p.tables e below (T29.setTop (mkF m 163 #[.val (.int p0), .val (.int p1), .val (.int p2), .val (.int (1 : Int32)), .val (.int (1 : Int32)), .val (.int md), .val (.int er), .val (.ref b1), .val (.int (1 : Int32)), .val (.int (2 : Int32)), .val (.int (1 : Int32)), .unset, .unset, .unset, .unset] [])) _
            refine XS.iconst X29.here hx rfl (hb hby at_163) ?_
            show Steps p.tables e below (T29.setTop (mkF m 164 #[.val (.int p0), .val (.int p1), .val (.int p2), .val (.int (1 : Int32)), .val (.int (1 : Int32)), .val (.int md), .val (.int er), .val (.ref b1), .val (.int (1 : Int32)), .val (.int (2 : Int32)), .val (.int (1 : Int32)), .unset, .unset, .unset, .unset] [(.int (1 : Int32))])) _
            refine XS.goto X29.here hx rfl (pc0 := 164) (pc' := 168) rfl (hb hby at_164) (by decide) (by decide) ?_
            show Steps p.tables e below (T29.setTop (mkF m 168 #[.val (.int p0), .val (.int p1), .val (.int p2), .val (.int (1 : Int32)), .val (.int (1 : Int32)), .val (.int md), .val (.int er), .val (.ref b1), .val (.int (1 : Int32)), .val (.int (2 : Int32)), .val (.int (1 : Int32)), .unset, .unset, .unset, .unset] [(.int (1 : Int32))])) _
            refine XS.istore X29.here hx rfl (hb hby at_168) rfl (l' := #[.val (.int p0), .val (.int p1), .val (.int p2), .val (.int (1 : Int32)), .val (.int (1 : Int32)), .val (.int md), .val (.int er), .val (.ref b1), .val (.int (1 : Int32)), .val (.int (2 : Int32)), .val (.int (1 : Int32)), .val (.int (1 : Int32)), .unset, .unset, .unset]) rfl ?_
            exact k
          have pre36 : ∀ t, Steps p.tables e below (T29.setTop (mkF m 194 #[.val (.int p0), .val (.int p1), .val (.int p2), .val (.int (1 : Int32)), .val (.int (1 : Int32)), .val (.int md), .val (.int er), .val (.ref b1), .val (.int (1 : Int32)), .val (.int (2 : Int32)), .val (.int (1 : Int32)), .val (.int (1 : Int32)), .val (.int (0 : Int32)), .unset, .unset] [])) t → Steps p.tables e below (s₁.setTop (entryFrame m #[(.int p0), (.int p1), (.int p2)] maxLocals)) t := by
            intro t k
            refine pre35 t ?_
            show Steps p.tables e below (T29.setTop (mkF m 170 #[.val (.int p0), .val (.int p1), .val (.int p2), .val (.int (1 : Int32)), .val (.int (1 : Int32)), .val (.int md), .val (.int er), .val (.ref b1), .val (.int (1 : Int32)), .val (.int (2 : Int32)), .val (.int (1 : Int32)), .val (.int (1 : Int32)), .unset, .unset, .unset] [])) _
            refine XS.iload X29.here hx rfl (hb hby at_170) rfl ?_
            show Steps p.tables e below (T29.setTop (mkF m 172 #[.val (.int p0), .val (.int p1), .val (.int p2), .val (.int (1 : Int32)), .val (.int (1 : Int32)), .val (.int md), .val (.int er), .val (.ref b1), .val (.int (1 : Int32)), .val (.int (2 : Int32)), .val (.int (1 : Int32)), .val (.int (1 : Int32)), .unset, .unset, .unset] [(.int (1 : Int32))])) _
            refine XS.ifNo X29.here hx rfl (hb hby at_172) rfl ((if0 _ _).trans (feq (by decide : ¬ ((1 : Int32) = (0 : Int32)))).1) ?_
            show Steps p.tables e below (T29.setTop (mkF m 175 #[.val (.int p0), .val (.int p1), .val (.int p2), .val (.int (1 : Int32)), .val (.int (1 : Int32)), .val (.int md), .val (.int er), .val (.ref b1), .val (.int (1 : Int32)), .val (.int (2 : Int32)), .val (.int (1 : Int32)), .val (.int (1 : Int32)), .unset, .unset, .unset] [])) _
            refine XS.iload X29.here hx rfl (hb hby at_175) rfl ?_
            show Steps p.tables e below (T29.setTop (mkF m 177 #[.val (.int p0), .val (.int p1), .val (.int p2), .val (.int (1 : Int32)), .val (.int (1 : Int32)), .val (.int md), .val (.int er), .val (.ref b1), .val (.int (1 : Int32)), .val (.int (2 : Int32)), .val (.int (1 : Int32)), .val (.int (1 : Int32)), .unset, .unset, .unset] [(.int (1 : Int32))])) _
            refine XS.ifNo X29.here hx rfl (hb hby at_177) rfl ((if0 _ _).trans (feq (by decide : ¬ ((1 : Int32) = (0 : Int32)))).1) ?_
            show Steps p.tables e below (T29.setTop (mkF m 180 #[.val (.int p0), .val (.int p1), .val (.int p2), .val (.int (1 : Int32)), .val (.int (1 : Int32)), .val (.int md), .val (.int er), .val (.ref b1), .val (.int (1 : Int32)), .val (.int (2 : Int32)), .val (.int (1 : Int32)), .val (.int (1 : Int32)), .unset, .unset, .unset] [])) _
            refine XS.iload X29.here hx rfl (hb hby at_180) rfl ?_
            show Steps p.tables e below (T29.setTop (mkF m 182 #[.val (.int p0), .val (.int p1), .val (.int p2), .val (.int (1 : Int32)), .val (.int (1 : Int32)), .val (.int md), .val (.int er), .val (.ref b1), .val (.int (1 : Int32)), .val (.int (2 : Int32)), .val (.int (1 : Int32)), .val (.int (1 : Int32)), .unset, .unset, .unset] [(.int er)])) _
            refine XS.bipush X29.here hx rfl (hb hby at_182) ?_
            show Steps p.tables e below (T29.setTop (mkF m 184 #[.val (.int p0), .val (.int p1), .val (.int p2), .val (.int (1 : Int32)), .val (.int (1 : Int32)), .val (.int md), .val (.int er), .val (.ref b1), .val (.int (1 : Int32)), .val (.int (2 : Int32)), .val (.int (1 : Int32)), .val (.int (1 : Int32)), .unset, .unset, .unset] [(.int (70 : Int32)), (.int er)])) _
            refine XS.icmpYes X29.here hx rfl (pc0 := 184) (pc' := 191) rfl (hb hby at_184) rfl (teq h70).1 (by decide) (by decide) ?_
            show Steps p.tables e below (T29.setTop (mkF m 191 #[.val (.int p0), .val (.int p1), .val (.int p2), .val (.int (1 : Int32)), .val (.int (1 : Int32)), .val (.int md), .val (.int er), .val (.ref b1), .val (.int (1 : Int32)), .val (.int (2 : Int32)), .val (.int (1 : Int32)), .val (.int (1 : Int32)), .unset, .unset, .unset] [])) _
            refine XS.iconst X29.here hx rfl (hb hby at_191) ?_
            show Steps p.tables e below (T29.setTop (mkF m 192 #[.val (.int p0), .val (.int p1), .val (.int p2), .val (.int (1 : Int32)), .val (.int (1 : Int32)), .val (.int md), .val (.int er), .val (.ref b1), .val (.int (1 : Int32)), .val (.int (2 : Int32)), .val (.int (1 : Int32)), .val (.int (1 : Int32)), .unset, .unset, .unset] [(.int (0 : Int32))])) _
            refine XS.istore X29.here hx rfl (hb hby at_192) rfl (l' := #[.val (.int p0), .val (.int p1), .val (.int p2), .val (.int (1 : Int32)), .val (.int (1 : Int32)), .val (.int md), .val (.int er), .val (.ref b1), .val (.int (1 : Int32)), .val (.int (2 : Int32)), .val (.int (1 : Int32)), .val (.int (1 : Int32)), .val (.int (0 : Int32)), .unset, .unset]) rfl ?_
            exact k
          have pre37 : ∀ t, Steps p.tables e below (T29.setTop (mkF m 207 #[.val (.int p0), .val (.int p1), .val (.int p2), .val (.int (1 : Int32)), .val (.int (1 : Int32)), .val (.int md), .val (.int er), .val (.ref b1), .val (.int (1 : Int32)), .val (.int (2 : Int32)), .val (.int (1 : Int32)), .val (.int (1 : Int32)), .val (.int (0 : Int32)), .val (.int (0 : Int32)), .unset] [])) t → Steps p.tables e below (s₁.setTop (entryFrame m #[(.int p0), (.int p1), (.int p2)] maxLocals)) t := by
            intro t k
            refine pre36 t ?_
            show Steps p.tables e below (T29.setTop (mkF m 194 #[.val (.int p0), .val (.int p1), .val (.int p2), .val (.int (1 : Int32)), .val (.int (1 : Int32)), .val (.int md), .val (.int er), .val (.ref b1), .val (.int (1 : Int32)), .val (.int (2 : Int32)), .val (.int (1 : Int32)), .val (.int (1 : Int32)), .val (.int (0 : Int32)), .unset, .unset] [])) _
            refine XS.iload X29.here hx rfl (hb hby at_194) rfl ?_
            show Steps p.tables e below (T29.setTop (mkF m 196 #[.val (.int p0), .val (.int p1), .val (.int p2), .val (.int (1 : Int32)), .val (.int (1 : Int32)), .val (.int md), .val (.int er), .val (.ref b1), .val (.int (1 : Int32)), .val (.int (2 : Int32)), .val (.int (1 : Int32)), .val (.int (1 : Int32)), .val (.int (0 : Int32)), .unset, .unset] [(.int (1 : Int32))])) _
            refine XS.ifNo X29.here hx rfl (hb hby at_196) rfl ((if0 _ _).trans (feq (by decide : ¬ ((1 : Int32) = (0 : Int32)))).1) ?_
            show Steps p.tables e below (T29.setTop (mkF m 199 #[.val (.int p0), .val (.int p1), .val (.int p2), .val (.int (1 : Int32)), .val (.int (1 : Int32)), .val (.int md), .val (.int er), .val (.ref b1), .val (.int (1 : Int32)), .val (.int (2 : Int32)), .val (.int (1 : Int32)), .val (.int (1 : Int32)), .val (.int (0 : Int32)), .unset, .unset] [])) _
            refine XS.iconst X29.here hx rfl (hb hby at_199) ?_
            show Steps p.tables e below (T29.setTop (mkF m 200 #[.val (.int p0), .val (.int p1), .val (.int p2), .val (.int (1 : Int32)), .val (.int (1 : Int32)), .val (.int md), .val (.int er), .val (.ref b1), .val (.int (1 : Int32)), .val (.int (2 : Int32)), .val (.int (1 : Int32)), .val (.int (1 : Int32)), .val (.int (0 : Int32)), .unset, .unset] [(.int (0 : Int32))])) _
            refine XS.goto X29.here hx rfl (pc0 := 200) (pc' := 205) rfl (hb hby at_200) (by decide) (by decide) ?_
            show Steps p.tables e below (T29.setTop (mkF m 205 #[.val (.int p0), .val (.int p1), .val (.int p2), .val (.int (1 : Int32)), .val (.int (1 : Int32)), .val (.int md), .val (.int er), .val (.ref b1), .val (.int (1 : Int32)), .val (.int (2 : Int32)), .val (.int (1 : Int32)), .val (.int (1 : Int32)), .val (.int (0 : Int32)), .unset, .unset] [(.int (0 : Int32))])) _
            refine XS.istore X29.here hx rfl (hb hby at_205) rfl (l' := #[.val (.int p0), .val (.int p1), .val (.int p2), .val (.int (1 : Int32)), .val (.int (1 : Int32)), .val (.int md), .val (.int er), .val (.ref b1), .val (.int (1 : Int32)), .val (.int (2 : Int32)), .val (.int (1 : Int32)), .val (.int (1 : Int32)), .val (.int (0 : Int32)), .val (.int (0 : Int32)), .unset]) rfl ?_
            exact k
          obtain ⟨cq31, kq31, q31a, q31b, q31c⟩ := isOf hZ rfl E29q
          obtain ⟨_, _, ⟨T31, L31, k31, n31⟩, -, X31, ⟨Lc31, hQ31, l31, y31, z31⟩, st31⟩ := X29.virtualBack hx (y := (⟨"com/example/tideline/tideline/session/FetcherSession", "next", "()Lcom/example/tideline/tideline/session/FetcherSession$Request;"⟩ : MethodName)) (z := (⟨"com/example/tideline/tideline/session/FetcherSession", "next", "()Lcom/example/tideline/tideline/session/FetcherSession$Request;"⟩ : MethodName)) hown (mvT hZ (hw _ (List.mem_of_getElem? (i := 52) rfl))) (mvT hZ (hw _ (List.mem_of_getElem? (i := 53) rfl))) (notFace_of_selects (args := #[]) (mvT hZ (hw _ (List.mem_of_getElem? (i := 55) rfl)))) (mvT hZ (hw _ (List.mem_of_getElem? (i := 55) rfl))) (mvT hZ (hw _ (List.mem_of_getElem? (i := 54) rfl))) (by decide) (backOf (W := 0) (rm7 l Z a0 hw [] b1 (0 : Int32) (0 : Int32) l2_25 f2_25 (.ref xb3) (.ref rq25) T29.heap n0 Zs30 F0_29q F1_29q F2_29q F3_29q F4_29q F5_29q E29q g_b1) hZ (hw _ (List.mem_of_getElem? (i := 56) rfl)) (hw _ (List.mem_of_getElem? (i := 2) rfl)) (by decide) (by decide)) q31a q31c (g := (mkF m 209 #[.val (.int p0), .val (.int p1), .val (.int p2), .val (.int (1 : Int32)), .val (.int (1 : Int32)), .val (.int md), .val (.int er), .val (.ref b1), .val (.int (1 : Int32)), .val (.int (2 : Int32)), .val (.int (1 : Int32)), .val (.int (1 : Int32)), .val (.int (0 : Int32)), .val (.int (0 : Int32)), .unset] [(.ref b1)])) rfl (by rw [hml]; rfl) (Steps.refl _) (argsL := []) (rest := []) (lenOf pd_7 rfl) rfl (by show 2 * 0 + _ ≤ _; exact Nat.le_of_eq rfl) (hb hby at_209) (fun _ _ => ⟨rfl, rfl, (by decide : 25 + 7 ≤ _), (by decide : 144 + 46 ≤ _)⟩)
          dsimp only [Pt.U, Pt.locs, Pt.cells, Pt.slots] at X31 l31 y31 z31 st31 hQ31
          subst l31 y31 z31
          obtain ⟨rq31, l2_31, f2_31, x3_31, rfl, N31q, K31q, E31q, Fid_31q, Fepoch_31q, Fheld_31q, Fpending_31q, Flisting_31q, Fforgetting_31q, Pl31q, Pf31q, Er31q, ge31q, RsessionId_31q, Repoch_31q, Rlisted_31q, Rforgotten_31q, hx31q⟩ := hQ31
          have N31 := Fr.app N29 N31q
          have hlt31 : b1 < T29.heap.size := E29q.lt
          have E_b1_31 := E29q.keep K31q
          have P_l2_5_31 := P_l2_5_29.keep K31q (allS hlt5 all0)
          have P_f2_5_31 := P_f2_5_29.keep K31q (allS hlt5 all0)
          have P_l2_25_31 := P_l2_25_29.keep K31q (allS hlt25 all0)
          have P_f2_25_31 := P_f2_25_29.keep K31q (allS hlt25 all0)
          have Zs32 := Nat.le_trans Zs30 K31q.1
          have ne_rq31 : rq31 ≠ b1 := fun q => Nat.lt_irrefl _ (Nat.lt_of_lt_of_le (q ▸ hlt31) ge31q)
          have pre38 : ∀ t, Steps p.tables e below (T31.setTop (mkF m 214 #[.val (.int p0), .val (.int p1), .val (.int p2), .val (.int (1 : Int32)), .val (.int (1 : Int32)), .val (.int md), .val (.int er), .val (.ref b1), .val (.int (1 : Int32)), .val (.int (2 : Int32)), .val (.int (1 : Int32)), .val (.int (1 : Int32)), .val (.int (0 : Int32)), .val (.int (0 : Int32)), .val (.ref rq31)] [])) t → Steps p.tables e below (s₁.setTop (entryFrame m #[(.int p0), (.int p1), (.int p2)] maxLocals)) t := by
            intro t k
            refine pre37 t ?_
            show Steps p.tables e below (T29.setTop (mkF m 207 #[.val (.int p0), .val (.int p1), .val (.int p2), .val (.int (1 : Int32)), .val (.int (1 : Int32)), .val (.int md), .val (.int er), .val (.ref b1), .val (.int (1 : Int32)), .val (.int (2 : Int32)), .val (.int (1 : Int32)), .val (.int (1 : Int32)), .val (.int (0 : Int32)), .val (.int (0 : Int32)), .unset] [])) _
            refine XS.aload X29.here hx rfl (hb hby at_207) rfl rfl ?_
            show Steps p.tables e below (T29.setTop (mkF m 209 #[.val (.int p0), .val (.int p1), .val (.int p2), .val (.int (1 : Int32)), .val (.int (1 : Int32)), .val (.int md), .val (.int er), .val (.ref b1), .val (.int (1 : Int32)), .val (.int (2 : Int32)), .val (.int (1 : Int32)), .val (.int (1 : Int32)), .val (.int (0 : Int32)), .val (.int (0 : Int32)), .unset] [(.ref b1)])) _
            refine st31.trans ?_
            show Steps p.tables e below (T31.setTop (mkF m 212 #[.val (.int p0), .val (.int p1), .val (.int p2), .val (.int (1 : Int32)), .val (.int (1 : Int32)), .val (.int md), .val (.int er), .val (.ref b1), .val (.int (1 : Int32)), .val (.int (2 : Int32)), .val (.int (1 : Int32)), .val (.int (1 : Int32)), .val (.int (0 : Int32)), .val (.int (0 : Int32)), .unset] [(.ref rq31)])) _
            refine XS.astore X31.here hx rfl (hb hby at_212) rfl rfl (l' := #[.val (.int p0), .val (.int p1), .val (.int p2), .val (.int (1 : Int32)), .val (.int (1 : Int32)), .val (.int md), .val (.int er), .val (.ref b1), .val (.int (1 : Int32)), .val (.int (2 : Int32)), .val (.int (1 : Int32)), .val (.int (1 : Int32)), .val (.int (0 : Int32)), .val (.int (0 : Int32)), .val (.ref rq31)]) rfl ?_
            exact k
          have pre39 : ∀ t, Steps p.tables e below (T31.setTop (mkF m 221 #[.val (.int p0), .val (.int p1), .val (.int p2), .val (.int (1 : Int32)), .val (.int (1 : Int32)), .val (.int md), .val (.int er), .val (.ref b1), .val (.int (1 : Int32)), .val (.int (2 : Int32)), .val (.int (1 : Int32)), .val (.int (1 : Int32)), .val (.int (0 : Int32)), .val (.int (0 : Int32)), .val (.ref rq31)] [])) t → Steps p.tables e below (s₁.setTop (entryFrame m #[(.int p0), (.int p1), (.int p2)] maxLocals)) t := by
            intro t k
            refine pre38 t ?_
            show Steps p.tables e below (T31.setTop (mkF m 214 #[.val (.int p0), .val (.int p1), .val (.int p2), .val (.int (1 : Int32)), .val (.int (1 : Int32)), .val (.int md), .val (.int er), .val (.ref b1), .val (.int (1 : Int32)), .val (.int (2 : Int32)), .val (.int (1 : Int32)), .val (.int (1 : Int32)), .val (.int (0 : Int32)), .val (.int (0 : Int32)), .val (.ref rq31)] [])) _
            refine XS.iload X31.here hx rfl (hb hby at_214) rfl ?_
            show Steps p.tables e below (T31.setTop (mkF m 216 #[.val (.int p0), .val (.int p1), .val (.int p2), .val (.int (1 : Int32)), .val (.int (1 : Int32)), .val (.int md), .val (.int er), .val (.ref b1), .val (.int (1 : Int32)), .val (.int (2 : Int32)), .val (.int (1 : Int32)), .val (.int (1 : Int32)), .val (.int (0 : Int32)), .val (.int (0 : Int32)), .val (.ref rq31)] [(.int (1 : Int32))])) _
            refine XS.iload X31.here hx rfl (hb hby at_216) rfl ?_
            show Steps p.tables e below (T31.setTop (mkF m 218 #[.val (.int p0), .val (.int p1), .val (.int p2), .val (.int (1 : Int32)), .val (.int (1 : Int32)), .val (.int md), .val (.int er), .val (.ref b1), .val (.int (1 : Int32)), .val (.int (2 : Int32)), .val (.int (1 : Int32)), .val (.int (1 : Int32)), .val (.int (0 : Int32)), .val (.int (0 : Int32)), .val (.ref rq31)] [(.int (1 : Int32)), (.int (1 : Int32))])) _
            refine XS.icmpNo X31.here hx rfl (hb hby at_218) rfl (teq (rfl : (1 : Int32) = (1 : Int32))).2 ?_
            exact k
          obtain ⟨cq33, kq33, q33a, q33b, q33c⟩ := isOf hZ rfl E31q
          obtain ⟨_, _, ⟨T33, L33, k33, n33⟩, -, X33, ⟨Lc33, hQ33, l33, y33, z33⟩, st33⟩ := X31.virtualBack hx (y := (⟨"com/example/tideline/tideline/session/FetcherSession", "incremental", "()Z"⟩ : MethodName)) (z := (⟨"com/example/tideline/tideline/session/FetcherSession", "incremental", "()Z"⟩ : MethodName)) hown (mvT hZ (hw _ (List.mem_of_getElem? (i := 86) rfl))) (mvT hZ (hw _ (List.mem_of_getElem? (i := 87) rfl))) (notFace_of_selects (args := #[]) (mvT hZ (hw _ (List.mem_of_getElem? (i := 89) rfl)))) (mvT hZ (hw _ (List.mem_of_getElem? (i := 89) rfl))) (mvT hZ (hw _ (List.mem_of_getElem? (i := 88) rfl))) (by decide) (backOf (W := 0) (rm11z l Z a0 hw [] b1 (0 : Int32) T31.heap n0 Zs32 Fepoch_31q rfl) hZ (hw _ (List.mem_of_getElem? (i := 90) rfl)) (hw _ (List.mem_of_getElem? (i := 2) rfl)) (by decide) (by decide)) q33a q33c (g := (mkF m 223 #[.val (.int p0), .val (.int p1), .val (.int p2), .val (.int (1 : Int32)), .val (.int (1 : Int32)), .val (.int md), .val (.int er), .val (.ref b1), .val (.int (1 : Int32)), .val (.int (2 : Int32)), .val (.int (1 : Int32)), .val (.int (1 : Int32)), .val (.int (0 : Int32)), .val (.int (0 : Int32)), .val (.ref rq31)] [(.ref b1)])) rfl (by rw [hml]; rfl) (Steps.refl _) (argsL := []) (rest := []) (lenOf pd_10 rfl) rfl (by show 2 * 0 + _ ≤ _; exact Nat.le_of_eq rfl) (hb hby at_223) (fun _ _ => ⟨rfl, rfl, (by decide : 32 + 0 ≤ _), (by decide : 190 + 0 ≤ _)⟩)
          dsimp only [Pt.U, Pt.locs, Pt.cells, Pt.slots] at X33 l33 y33 z33 st33 hQ33
          subst l33 y33 z33
          obtain ⟨rfl, N33q, e33q⟩ := hQ33
          have N33 := Fr.app N31 N33q
          have pre40 : ∀ t, Steps p.tables e below (T33.setTop (mkF m 228 #[.val (.int p0), .val (.int p1), .val (.int p2), .val (.int (1 : Int32)), .val (.int (1 : Int32)), .val (.int md), .val (.int er), .val (.ref b1), .val (.int (1 : Int32)), .val (.int (2 : Int32)), .val (.int (1 : Int32)), .val (.int (1 : Int32)), .val (.int (0 : Int32)), .val (.int (0 : Int32)), .val (.ref rq31)] [(.int (0 : Int32)), (.int (0 : Int32))])) t → Steps p.tables e below (s₁.setTop (entryFrame m #[(.int p0), (.int p1), (.int p2)] maxLocals)) t := by
            intro t k
            refine pre39 t ?_
            show Steps p.tables e below (T31.setTop (mkF m 221 #[.val (.int p0), .val (.int p1), .val (.int p2), .val (.int (1 : Int32)), .val (.int (1 : Int32)), .val (.int md), .val (.int er), .val (.ref b1), .val (.int (1 : Int32)), .val (.int (2 : Int32)), .val (.int (1 : Int32)), .val (.int (1 : Int32)), .val (.int (0 : Int32)), .val (.int (0 : Int32)), .val (.ref rq31)] [])) _
            refine XS.aload X31.here hx rfl (hb hby at_221) rfl rfl ?_
            show Steps p.tables e below (T31.setTop (mkF m 223 #[.val (.int p0), .val (.int p1), .val (.int p2), .val (.int (1 : Int32)), .val (.int (1 : Int32)), .val (.int md), .val (.int er), .val (.ref b1), .val (.int (1 : Int32)), .val (.int (2 : Int32)), .val (.int (1 : Int32)), .val (.int (1 : Int32)), .val (.int (0 : Int32)), .val (.int (0 : Int32)), .val (.ref rq31)] [(.ref b1)])) _
            refine st33.trans ?_
            show Steps p.tables e below (T33.setTop (mkF m 226 #[.val (.int p0), .val (.int p1), .val (.int p2), .val (.int (1 : Int32)), .val (.int (1 : Int32)), .val (.int md), .val (.int er), .val (.ref b1), .val (.int (1 : Int32)), .val (.int (2 : Int32)), .val (.int (1 : Int32)), .val (.int (1 : Int32)), .val (.int (0 : Int32)), .val (.int (0 : Int32)), .val (.ref rq31)] [(.int (0 : Int32))])) _
            refine XS.iload X33.here hx rfl (hb hby at_226) rfl ?_
            exact k
          have pre41 : ∀ t, Steps p.tables e below (T33.setTop (mkF m 236 #[.val (.int p0), .val (.int p1), .val (.int p2), .val (.int (1 : Int32)), .val (.int (1 : Int32)), .val (.int md), .val (.int er), .val (.ref b1), .val (.int (1 : Int32)), .val (.int (2 : Int32)), .val (.int (1 : Int32)), .val (.int (1 : Int32)), .val (.int (0 : Int32)), .val (.int (0 : Int32)), .val (.ref rq31)] [(.int (0 : Int32)), (.int (0 : Int32))])) t → Steps p.tables e below (s₁.setTop (entryFrame m #[(.int p0), (.int p1), (.int p2)] maxLocals)) t := by
            intro t k
            refine pre40 t ?_
            show Steps p.tables e below (T33.setTop (mkF m 228 #[.val (.int p0), .val (.int p1), .val (.int p2), .val (.int (1 : Int32)), .val (.int (1 : Int32)), .val (.int md), .val (.int er), .val (.ref b1), .val (.int (1 : Int32)), .val (.int (2 : Int32)), .val (.int (1 : Int32)), .val (.int (1 : Int32)), .val (.int (0 : Int32)), .val (.int (0 : Int32)), .val (.ref rq31)] [(.int (0 : Int32)), (.int (0 : Int32))])) _
            refine XS.ifYes X33.here hx rfl (pc0 := 228) (pc' := 235) rfl (hb hby at_228) rfl ((if0 _ _).trans (teq (rfl : (0 : Int32) = (0 : Int32))).1) (by decide) (by decide) ?_
            show Steps p.tables e below (T33.setTop (mkF m 235 #[.val (.int p0), .val (.int p1), .val (.int p2), .val (.int (1 : Int32)), .val (.int (1 : Int32)), .val (.int md), .val (.int er), .val (.ref b1), .val (.int (1 : Int32)), .val (.int (2 : Int32)), .val (.int (1 : Int32)), .val (.int (1 : Int32)), .val (.int (0 : Int32)), .val (.int (0 : Int32)), .val (.ref rq31)] [(.int (0 : Int32))])) _
            refine XS.iconst X33.here hx rfl (hb hby at_235) ?_
            exact k
          obtain ⟨cq34, kq34, q34a, q34b, q34c⟩ := isOf hZ e33q Er31q
          obtain ⟨_, _, ⟨T34, L34, k34, n34⟩, -, X34, ⟨Lc34, hQ34, l34, y34, z34⟩, st34⟩ := X33.virtualBack hx (y := (⟨"com/example/tideline/tideline/session/FetcherSession$Request", "sessionId", "()I"⟩ : MethodName)) (z := (⟨"com/example/tideline/tideline/session/FetcherSession$Request", "sessionId", "()I"⟩ : MethodName)) hown (mvT hZ (hw _ (List.mem_of_getElem? (i := 91) rfl))) (mvT hZ (hw _ (List.mem_of_getElem? (i := 92) rfl))) (notFace_of_selects (args := #[]) (mvT hZ (hw _ (List.mem_of_getElem? (i := 94) rfl)))) (mvT hZ (hw _ (List.mem_of_getElem? (i := 94) rfl))) (mvT hZ (hw _ (List.mem_of_getElem? (i := 93) rfl))) (by decide) (backOf (W := 0) (rm12 l Z a0 hw [] rq31 (0 : Int32) T31.heap n0 Zs32 RsessionId_31q) hZ (hw _ (List.mem_of_getElem? (i := 95) rfl)) (hw _ (List.mem_of_getElem? (i := 59) rfl)) (by decide) (by decide)) q34a q34c (g := (mkF m 241 #[.val (.int p0), .val (.int p1), .val (.int p2), .val (.int (1 : Int32)), .val (.int (1 : Int32)), .val (.int md), .val (.int er), .val (.ref b1), .val (.int (1 : Int32)), .val (.int (2 : Int32)), .val (.int (1 : Int32)), .val (.int (1 : Int32)), .val (.int (0 : Int32)), .val (.int (0 : Int32)), .val (.ref rq31)] [(.ref rq31)])) rfl (by rw [hml]; rfl) (Steps.refl _) (argsL := []) (rest := []) (lenOf pd_11 rfl) rfl (by show 2 * 0 + _ ≤ _; exact Nat.le_of_eq rfl) (hb hby at_241) (fun _ _ => ⟨rfl, e33q, (by decide : 32 + 0 ≤ _), (by decide : 190 + 0 ≤ _)⟩)
          dsimp only [Pt.U, Pt.locs, Pt.cells, Pt.slots] at X34 l34 y34 z34 st34 hQ34
          subst l34 y34 z34
          obtain ⟨rfl, N34q, e34q⟩ := hQ34
          have N34 := Fr.app N33 N34q
          obtain ⟨cq35, kq35, q35a, q35b, q35c⟩ := isOf hZ e34q Er31q
          obtain ⟨_, _, ⟨T35, L35, k35, n35⟩, -, X35, ⟨Lc35, hQ35, l35, y35, z35⟩, st35⟩ := X34.virtualBack hx (y := (⟨"com/example/tideline/tideline/session/FetcherSession$Request", "epoch", "()I"⟩ : MethodName)) (z := (⟨"com/example/tideline/tideline/session/FetcherSession$Request", "epoch", "()I"⟩ : MethodName)) hown (mvT hZ (hw _ (List.mem_of_getElem? (i := 96) rfl))) (mvT hZ (hw _ (List.mem_of_getElem? (i := 97) rfl))) (notFace_of_selects (args := #[]) (mvT hZ (hw _ (List.mem_of_getElem? (i := 99) rfl)))) (mvT hZ (hw _ (List.mem_of_getElem? (i := 99) rfl))) (mvT hZ (hw _ (List.mem_of_getElem? (i := 98) rfl))) (by decide) (backOf (W := 0) (rm13 l Z a0 hw [] rq31 (0 : Int32) T31.heap n0 Zs32 Repoch_31q) hZ (hw _ (List.mem_of_getElem? (i := 100) rfl)) (hw _ (List.mem_of_getElem? (i := 59) rfl)) (by decide) (by decide)) q35a q35c (g := (mkF m 251 #[.val (.int p0), .val (.int p1), .val (.int p2), .val (.int (1 : Int32)), .val (.int (1 : Int32)), .val (.int md), .val (.int er), .val (.ref b1), .val (.int (1 : Int32)), .val (.int (2 : Int32)), .val (.int (1 : Int32)), .val (.int (1 : Int32)), .val (.int (0 : Int32)), .val (.int (0 : Int32)), .val (.ref rq31)] [(.ref rq31)])) rfl (by rw [hml]; rfl) (Steps.refl _) (argsL := []) (rest := []) (lenOf pd_11 rfl) rfl (by show 2 * 0 + _ ≤ _; exact Nat.le_of_eq rfl) (hb hby at_251) (fun _ _ => ⟨rfl, e34q, (by decide : 32 + 0 ≤ _), (by decide : 190 + 0 ≤ _)⟩)
          dsimp only [Pt.U, Pt.locs, Pt.cells, Pt.slots] at X35 l35 y35 z35 st35 hQ35
          subst l35 y35 z35
          obtain ⟨rfl, N35q, e35q⟩ := hQ35
          have N35 := Fr.app N34 N35q
          obtain ⟨fs, hr, hrun, hended, hW, hsame⟩ := X35.leave (v := some (.int (1 : Int32))) (fun h => by rw [Bd.returns] at h; cases h)
          refine ⟨_, _, pre41 _ ?_, hrun, hended, _, _, rfl, ?_, ⟨_, rfl⟩, hW, hsame.mono (by decide) (by decide)⟩
          · show Steps p.tables e below (T33.setTop (mkF m 236 #[.val (.int p0), .val (.int p1), .val (.int p2), .val (.int (1 : Int32)), .val (.int (1 : Int32)), .val (.int md), .val (.int er), .val (.ref b1), .val (.int (1 : Int32)), .val (.int (2 : Int32)), .val (.int (1 : Int32)), .val (.int (1 : Int32)), .val (.int (0 : Int32)), .val (.int (0 : Int32)), .val (.ref rq31)] [(.int (0 : Int32)), (.int (0 : Int32))])) _
            refine XS.icmpNo X33.here hx rfl (hb hby at_236) rfl (teq (rfl : (0 : Int32) = (0 : Int32))).2 ?_
            show Steps p.tables e below (T33.setTop (mkF m 239 #[.val (.int p0), .val (.int p1), .val (.int p2), .val (.int (1 : Int32)), .val (.int (1 : Int32)), .val (.int md), .val (.int er), .val (.ref b1), .val (.int (1 : Int32)), .val (.int (2 : Int32)), .val (.int (1 : Int32)), .val (.int (1 : Int32)), .val (.int (0 : Int32)), .val (.int (0 : Int32)), .val (.ref rq31)] [])) _
            refine XS.aload X33.here hx rfl (hb hby at_239) rfl rfl ?_
            show Steps p.tables e below (T33.setTop (mkF m 241 #[.val (.int p0), .val (.int p1), .val (.int p2), .val (.int (1 : Int32)), .val (.int (1 : Int32)), .val (.int md), .val (.int er), .val (.ref b1), .val (.int (1 : Int32)), .val (.int (2 : Int32)), .val (.int (1 : Int32)), .val (.int (1 : Int32)), .val (.int (0 : Int32)), .val (.int (0 : Int32)), .val (.ref rq31)] [(.ref rq31)])) _
            refine st34.trans ?_
            show Steps p.tables e below (T34.setTop (mkF m 244 #[.val (.int p0), .val (.int p1), .val (.int p2), .val (.int (1 : Int32)), .val (.int (1 : Int32)), .val (.int md), .val (.int er), .val (.ref b1), .val (.int (1 : Int32)), .val (.int (2 : Int32)), .val (.int (1 : Int32)), .val (.int (1 : Int32)), .val (.int (0 : Int32)), .val (.int (0 : Int32)), .val (.ref rq31)] [(.int (0 : Int32))])) _
            refine XS.iload X34.here hx rfl (hb hby at_244) rfl ?_
            show Steps p.tables e below (T34.setTop (mkF m 246 #[.val (.int p0), .val (.int p1), .val (.int p2), .val (.int (1 : Int32)), .val (.int (1 : Int32)), .val (.int md), .val (.int er), .val (.ref b1), .val (.int (1 : Int32)), .val (.int (2 : Int32)), .val (.int (1 : Int32)), .val (.int (1 : Int32)), .val (.int (0 : Int32)), .val (.int (0 : Int32)), .val (.ref rq31)] [(.int (0 : Int32)), (.int (0 : Int32))])) _
            refine XS.icmpNo X34.here hx rfl (hb hby at_246) rfl (teq (rfl : (0 : Int32) = (0 : Int32))).2 ?_
            show Steps p.tables e below (T34.setTop (mkF m 249 #[.val (.int p0), .val (.int p1), .val (.int p2), .val (.int (1 : Int32)), .val (.int (1 : Int32)), .val (.int md), .val (.int er), .val (.ref b1), .val (.int (1 : Int32)), .val (.int (2 : Int32)), .val (.int (1 : Int32)), .val (.int (1 : Int32)), .val (.int (0 : Int32)), .val (.int (0 : Int32)), .val (.ref rq31)] [])) _
            refine XS.aload X34.here hx rfl (hb hby at_249) rfl rfl ?_
            show Steps p.tables e below (T34.setTop (mkF m 251 #[.val (.int p0), .val (.int p1), .val (.int p2), .val (.int (1 : Int32)), .val (.int (1 : Int32)), .val (.int md), .val (.int er), .val (.ref b1), .val (.int (1 : Int32)), .val (.int (2 : Int32)), .val (.int (1 : Int32)), .val (.int (1 : Int32)), .val (.int (0 : Int32)), .val (.int (0 : Int32)), .val (.ref rq31)] [(.ref rq31)])) _
            refine st35.trans ?_
            show Steps p.tables e below (T35.setTop (mkF m 254 #[.val (.int p0), .val (.int p1), .val (.int p2), .val (.int (1 : Int32)), .val (.int (1 : Int32)), .val (.int md), .val (.int er), .val (.ref b1), .val (.int (1 : Int32)), .val (.int (2 : Int32)), .val (.int (1 : Int32)), .val (.int (1 : Int32)), .val (.int (0 : Int32)), .val (.int (0 : Int32)), .val (.ref rq31)] [(.int (0 : Int32))])) _
            refine XS.iload X35.here hx rfl (hb hby at_254) rfl ?_
            show Steps p.tables e below (T35.setTop (mkF m 256 #[.val (.int p0), .val (.int p1), .val (.int p2), .val (.int (1 : Int32)), .val (.int (1 : Int32)), .val (.int md), .val (.int er), .val (.ref b1), .val (.int (1 : Int32)), .val (.int (2 : Int32)), .val (.int (1 : Int32)), .val (.int (1 : Int32)), .val (.int (0 : Int32)), .val (.int (0 : Int32)), .val (.ref rq31)] [(.int (0 : Int32)), (.int (0 : Int32))])) _
            refine XS.icmpNo X35.here hx rfl (hb hby at_256) rfl (teq (rfl : (0 : Int32) = (0 : Int32))).2 ?_
            show Steps p.tables e below (T35.setTop (mkF m 259 #[.val (.int p0), .val (.int p1), .val (.int p2), .val (.int (1 : Int32)), .val (.int (1 : Int32)), .val (.int md), .val (.int er), .val (.ref b1), .val (.int (1 : Int32)), .val (.int (2 : Int32)), .val (.int (1 : Int32)), .val (.int (1 : Int32)), .val (.int (0 : Int32)), .val (.int (0 : Int32)), .val (.ref rq31)] [])) _
            refine XS.iconst X35.here hx rfl (hb hby at_259) ?_
            show Steps p.tables e below (T35.setTop (mkF m 260 #[.val (.int p0), .val (.int p1), .val (.int p2), .val (.int (1 : Int32)), .val (.int (1 : Int32)), .val (.int md), .val (.int er), .val (.ref b1), .val (.int (1 : Int32)), .val (.int (2 : Int32)), .val (.int (1 : Int32)), .val (.int (1 : Int32)), .val (.int (0 : Int32)), .val (.int (0 : Int32)), .val (.ref rq31)] [(.int (1 : Int32))])) _
            refine XS.goto X35.here hx rfl (pc0 := 260) (pc' := 264) rfl (hb hby at_260) (by decide) (by decide) ?_
            show Steps p.tables e below (T35.setTop (mkF m 264 #[.val (.int p0), .val (.int p1), .val (.int p2), .val (.int (1 : Int32)), .val (.int (1 : Int32)), .val (.int md), .val (.int er), .val (.ref b1), .val (.int (1 : Int32)), .val (.int (2 : Int32)), .val (.int (1 : Int32)), .val (.int (1 : Int32)), .val (.int (0 : Int32)), .val (.int (0 : Int32)), .val (.ref rq31)] [(.int (1 : Int32))])) _
            exact retN X35 hx (t := .boolean) Bd.returns (by simp) (hb hby at_264) hr
          · show Q0 Z p0 p1 p2 h0 n0 _ T35.heap _
            rw [e35q]
            exact ⟨rfl, N35⟩
        · skip
          by_cases h71 : er = (71 : Int32)
          · skip
            obtain ⟨cq36, kq36, q36a, q36b, q36c⟩ := isOf hZ rfl E27q
            obtain ⟨_, _, ⟨T36, L36, k36, n36⟩, -, X36, ⟨Lc36, hQ36, l36, y36, z36⟩, st36⟩ := X27.virtualBack hx (y := (⟨"com/example/tideline/tideline/session/FetcherSession", "startOver", "(S)Z"⟩ : MethodName)) (z := (⟨"com/example/tideline/tideline/session/FetcherSession", "startOver", "(S)Z"⟩ : MethodName)) hown (mvT hZ (hw _ (List.mem_of_getElem? (i := 81) rfl))) (mvT hZ (hw _ (List.mem_of_getElem? (i := 82) rfl))) (notFace_of_selects (args := #[]) (mvT hZ (hw _ (List.mem_of_getElem? (i := 84) rfl)))) (mvT hZ (hw _ (List.mem_of_getElem? (i := 84) rfl))) (mvT hZ (hw _ (List.mem_of_getElem? (i := 83) rfl))) (by decide) (backOf (W := 0) (rm10b l Z a0 hw [] b1 er p0 ((1 : Int32) + (1 : Int32)) l2_25 f2_25 (.ref xb3) (.ref rq25) T27.heap n0 Zs28 F0_27q F1_27q F2_27q F3_27q F4_27q F5_27q E27q g_b1 (by decide) h70 h71) hZ (hw _ (List.mem_of_getElem? (i := 85) rfl)) (hw _ (List.mem_of_getElem? (i := 2) rfl)) (by decide) (by decide)) q36a q36c (g := (mkF m 139 #[.val (.int p0), .val (.int p1), .val (.int p2), .val (.int (1 : Int32)), .val (.int (1 : Int32)), .val (.int md), .val (.int er), .val (.ref b1), .val (.int (1 : Int32)), .val (.int (2 : Int32)), .unset, .unset, .unset, .unset, .unset] [(.int er), (.ref b1)])) rfl (by rw [hml]; rfl) (Steps.refl _) (argsL := [(.int er)]) (rest := []) (lenOf pd_9 rfl) rfl (by show 2 * 0 + _ ≤ _; exact Nat.le_of_eq rfl) (hb hby at_139) (fun _ _ => ⟨rfl, rfl, (by decide : 25 + 0 ≤ _), (by decide : 144 + 0 ≤ _)⟩)
            dsimp only [Pt.U, Pt.locs, Pt.cells, Pt.slots] at X36 l36 y36 z36 st36 hQ36
            subst l36 y36 z36
            obtain ⟨rfl, N36q, K36q, E36q, F0_36q, F1_36q, F2_36q, F3_36q, F4_36q, F5_36q⟩ := hQ36
            have N36 := Fr.app N27 N36q
            have E_b1_36 := E27q.keep K36q
            have P_l2_5_36 := P_l2_5_27.keep K36q (allS hlt5 all0)
            have P_f2_5_36 := P_f2_5_27.keep K36q (allS hlt5 all0)
            have E_rq25_36 := E_rq25_27.keep K36q
            have F_rq25_sessionId_36 := F_rq25_sessionId_27.keep K36q (ninS ne_rq25 nin0)
            have F_rq25_epoch_36 := F_rq25_epoch_27.keep K36q (ninS ne_rq25 nin0)
            have F_rq25_listed_36 := F_rq25_listed_27.keep K36q (ninS ne_rq25 nin0)
            have F_rq25_forgotten_36 := F_rq25_forgotten_27.keep K36q (ninS ne_rq25 nin0)
            have P_l2_25_36 := P_l2_25_27.keep K36q (allS hlt25 all0)
            have P_f2_25_36 := P_f2_25_27.keep K36q (allS hlt25 all0)
            have Zs37 := Nat.le_trans Zs28 K36q.1
            have pre42 : ∀ t, Steps p.tables e below (T36.setTop (mkF m 144 #[.val (.int p0), .val (.int p1), .val (.int p2), .val (.int (1 : Int32)), .val (.int (1 : Int32)), .val (.int md), .val (.int er), .val (.ref b1), .val (.int (1 : Int32)), .val (.int (2 : Int32)), .val (.int (1 : Int32)), .unset, .unset, .unset, .unset] [])) t → Steps p.tables e below (s₁.setTop (entryFrame m #[(.int p0), (.int p1), (.int p2)] maxLocals)) t := by
              intro t k
              refine pre33 t ?_
              show Steps p.tables e below (T27.setTop (mkF m 135 #[.val (.int p0), .val (.int p1), .val (.int p2), .val (.int (1 : Int32)), .val (.int (1 : Int32)), .val (.int md), .val (.int er), .val (.ref b1), .val (.int (1 : Int32)), .val (.int (2 : Int32)), .unset, .unset, .unset, .unset, .unset] [])) _
              refine XS.aload X27.here hx rfl (hb hby at_135) rfl rfl ?_
              show Steps p.tables e below (T27.setTop (mkF m 137 #[.val (.int p0), .val (.int p1), .val (.int p2), .val (.int (1 : Int32)), .val (.int (1 : Int32)), .val (.int md), .val (.int er), .val (.ref b1), .val (.int (1 : Int32)), .val (.int (2 : Int32)), .unset, .unset, .unset, .unset, .unset] [(.ref b1)])) _
              refine XS.iload X27.here hx rfl (hb hby at_137) rfl ?_
              show Steps p.tables e below (T27.setTop (mkF m 139 #[.val (.int p0), .val (.int p1), .val (.int p2), .val (.int (1 : Int32)), .val (.int (1 : Int32)), .val (.int md), .val (.int er), .val (.ref b1), .val (.int (1 : Int32)), .val (.int (2 : Int32)), .unset, .unset, .unset, .unset, .unset] [(.int er), (.ref b1)])) _
              refine st36.trans ?_
              show Steps p.tables e below (T36.setTop (mkF m 142 #[.val (.int p0), .val (.int p1), .val (.int p2), .val (.int (1 : Int32)), .val (.int (1 : Int32)), .val (.int md), .val (.int er), .val (.ref b1), .val (.int (1 : Int32)), .val (.int (2 : Int32)), .unset, .unset, .unset, .unset, .unset] [(.int (1 : Int32))])) _
              refine XS.istore X36.here hx rfl (hb hby at_142) rfl (l' := #[.val (.int p0), .val (.int p1), .val (.int p2), .val (.int (1 : Int32)), .val (.int (1 : Int32)), .val (.int md), .val (.int er), .val (.ref b1), .val (.int (1 : Int32)), .val (.int (2 : Int32)), .val (.int (1 : Int32)), .unset, .unset, .unset, .unset]) rfl ?_
              exact k
            have pre43 : ∀ t, Steps p.tables e below (T36.setTop (mkF m 170 #[.val (.int p0), .val (.int p1), .val (.int p2), .val (.int (1 : Int32)), .val (.int (1 : Int32)), .val (.int md), .val (.int er), .val (.ref b1), .val (.int (1 : Int32)), .val (.int (2 : Int32)), .val (.int (1 : Int32)), .val (.int (1 : Int32)), .unset, .unset, .unset] [])) t → Steps p.tables e below (s₁.setTop (entryFrame m #[(.int p0), (.int p1), (.int p2)] maxLocals)) t := by
              intro t k
              refine pre42 t ?_
              show Steps p.tables e below (T36.setTop (mkF m 144 #[.val (.int p0), .val (.int p1), .val (.int p2), .val (.int (1 : Int32)), .val (.int (1 : Int32)), .val (.int md), .val (.int er), .val (.ref b1), .val (.int (1 : Int32)), .val (.int (2 : Int32)), .val (.int (1 : Int32)), .unset, .unset, .unset, .unset] [])) _
              refine XS.iload X36.here hx rfl (hb hby at_144) rfl ?_
              show Steps p.tables e below (T36.setTop (mkF m 146 #[.val (.int p0), .val (.int p1), .val (.int p2), .val (.int (1 : Int32)), .val (.int (1 : Int32)), .val (.int md), .val (.int er), .val (.ref b1), .val (.int (1 : Int32)), .val (.int (2 : Int32)), .val (.int (1 : Int32)), .unset, .unset, .unset, .unset] [(.int (1 : Int32))])) _
              refine XS.ifNo X36.here hx rfl (hb hby at_146) rfl ((if0 _ _).trans (feq (by decide : ¬ ((1 : Int32) = (0 : Int32)))).1) ?_
              show Steps p.tables e below (T36.setTop (mkF m 149 #[.val (.int p0), .val (.int p1), .val (.int p2), .val (.int (1 : Int32)), .val (.int (1 : Int32)), .val (.int md), .val (.int er), .val (.ref b1), .val (.int (1 : Int32)), .val (.int (2 : Int32)), .val (.int (1 : Int32)), .unset, .unset, .unset, .unset] [])) _
              refine XS.iload X36.here hx rfl (hb hby at_149) rfl ?_
              show Steps p.tables e below (T36.setTop (mkF m 151 #[.val (.int p0), .val (.int p1), .val (.int p2), .val (.int (1 : Int32)), .val (.int (1 : Int32)), .val (.int md), .val (.int er), .val (.ref b1), .val (.int (1 : Int32)), .val (.int (2 : Int32)), .val (.int (1 : Int32)), .unset, .unset, .unset, .unset] [(.int er)])) _
              refine XS.bipush X36.here hx rfl (hb hby at_151) ?_
              show Steps p.tables e below (T36.setTop (mkF m 153 #[.val (.int p0), .val (.int p1), .val (.int p2), .val (.int (1 : Int32)), .val (.int (1 : Int32)), .val (.int md), .val (.int er), .val (.ref b1), .val (.int (1 : Int32)), .val (.int (2 : Int32)), .val (.int (1 : Int32)), .unset, .unset, .unset, .unset] [(.int (70 : Int32)), (.int er)])) _
              refine XS.icmpNo X36.here hx rfl (hb hby at_153) rfl (feq h70).1 ?_
              show Steps p.tables e below (T36.setTop (mkF m 156 #[.val (.int p0), .val (.int p1), .val (.int p2), .val (.int (1 : Int32)), .val (.int (1 : Int32)), .val (.int md), .val (.int er), .val (.ref b1), .val (.int (1 : Int32)), .val (.int (2 : Int32)), .val (.int (1 : Int32)), .unset, .unset, .unset, .unset] [])) _
              refine XS.iload X36.here hx rfl (hb hby at_156) rfl ?_
              show Steps p.tables e below (T36.setTop (mkF m 158 #[.val (.int p0), .val (.int p1), .val (.int p2), .val (.int (1 : Int32)), .val (.int (1 : Int32)), .val (.int md), .val (.int er), .val (.ref b1), .val (.int (1 : Int32)), .val (.int (2 : Int32)), .val (.int (1 : Int32)), .unset, .unset, .unset, .unset] [(.int er)])) _
              refine XS.bipush X36.here hx rfl (hb hby at_158) ?_
              show Steps p.tables e below (T36.setTop (mkF m 160 #[.val (.int p0), .val (.int p1), .val (.int p2), .val (.int (1 : Int32)), .val (.int (1 : Int32)), .val (.int md), .val (.int er), .val (.ref b1), .val (.int (1 : Int32)), .val (.int (2 : Int32)), .val (.int (1 : Int32)), .unset, .unset, .unset, .unset] [(.int (71 : Int32)), (.int er)])) _
              refine XS.icmpNo X36.here hx rfl (hb hby at_160) rfl (teq h71).2 ?_
              show Steps p.tables e below (T36.setTop (mkF m 163 #[.val (.int p0), .val (.int p1), .val (.int p2), .val (.int (1 : Int32)), .val (.int (1 : Int32)), .val (.int md), .val (.int er), .val (.ref b1), .val (.int (1 : Int32)), .val (.int (2 : Int32)), .val (.int (1 : Int32)), .unset, .unset, .unset, .unset] [])) _
              refine XS.iconst X36.here hx rfl (hb hby at_163) ?_
              show Steps p.tables e below (T36.setTop (mkF m 164 #[.val (.int p0), .val (.int p1), .val (.int p2), .val (.int (1 : Int32)), .val (.int (1 : Int32)), .val (.int md), .val (.int er), .val (.ref b1), .val (.int (1 : Int32)), .val (.int (2 : Int32)), .val (.int (1 : Int32)), .unset, .unset, .unset, .unset] [(.int (1 : Int32))])) _
              refine XS.goto X36.here hx rfl (pc0 := 164) (pc' := 168) rfl (hb hby at_164) (by decide) (by decide) ?_
              show Steps p.tables e below (T36.setTop (mkF m 168 #[.val (.int p0), .val (.int p1), .val (.int p2), .val (.int (1 : Int32)), .val (.int (1 : Int32)), .val (.int md), .val (.int er), .val (.ref b1), .val (.int (1 : Int32)), .val (.int (2 : Int32)), .val (.int (1 : Int32)), .unset, .unset, .unset, .unset] [(.int (1 : Int32))])) _
              refine XS.istore X36.here hx rfl (hb hby at_168) rfl (l' := #[.val (.int p0), .val (.int p1), .val (.int p2), .val (.int (1 : Int32)), .val (.int (1 : Int32)), .val (.int md), .val (.int er), .val (.ref b1), .val (.int (1 : Int32)), .val (.int (2 : Int32)), .val (.int (1 : Int32)), .val (.int (1 : Int32)), .unset, .unset, .unset]) rfl ?_
              exact k
            have pre44 : ∀ t, Steps p.tables e below (T36.setTop (mkF m 194 #[.val (.int p0), .val (.int p1), .val (.int p2), .val (.int (1 : Int32)), .val (.int (1 : Int32)), .val (.int md), .val (.int er), .val (.ref b1), .val (.int (1 : Int32)), .val (.int (2 : Int32)), .val (.int (1 : Int32)), .val (.int (1 : Int32)), .val (.int p0), .unset, .unset] [])) t → Steps p.tables e below (s₁.setTop (entryFrame m #[(.int p0), (.int p1), (.int p2)] maxLocals)) t := by
              intro t k
              refine pre43 t ?_
              show Steps p.tables e below (T36.setTop (mkF m 170 #[.val (.int p0), .val (.int p1), .val (.int p2), .val (.int (1 : Int32)), .val (.int (1 : Int32)), .val (.int md), .val (.int er), .val (.ref b1), .val (.int (1 : Int32)), .val (.int (2 : Int32)), .val (.int (1 : Int32)), .val (.int (1 : Int32)), .unset, .unset, .unset] [])) _
              refine XS.iload X36.here hx rfl (hb hby at_170) rfl ?_
              show Steps p.tables e below (T36.setTop (mkF m 172 #[.val (.int p0), .val (.int p1), .val (.int p2), .val (.int (1 : Int32)), .val (.int (1 : Int32)), .val (.int md), .val (.int er), .val (.ref b1), .val (.int (1 : Int32)), .val (.int (2 : Int32)), .val (.int (1 : Int32)), .val (.int (1 : Int32)), .unset, .unset, .unset] [(.int (1 : Int32))])) _
              refine XS.ifNo X36.here hx rfl (hb hby at_172) rfl ((if0 _ _).trans (feq (by decide : ¬ ((1 : Int32) = (0 : Int32)))).1) ?_
              show Steps p.tables e below (T36.setTop (mkF m 175 #[.val (.int p0), .val (.int p1), .val (.int p2), .val (.int (1 : Int32)), .val (.int (1 : Int32)), .val (.int md), .val (.int er), .val (.ref b1), .val (.int (1 : Int32)), .val (.int (2 : Int32)), .val (.int (1 : Int32)), .val (.int (1 : Int32)), .unset, .unset, .unset] [])) _
              refine XS.iload X36.here hx rfl (hb hby at_175) rfl ?_
              show Steps p.tables e below (T36.setTop (mkF m 177 #[.val (.int p0), .val (.int p1), .val (.int p2), .val (.int (1 : Int32)), .val (.int (1 : Int32)), .val (.int md), .val (.int er), .val (.ref b1), .val (.int (1 : Int32)), .val (.int (2 : Int32)), .val (.int (1 : Int32)), .val (.int (1 : Int32)), .unset, .unset, .unset] [(.int (1 : Int32))])) _
              refine XS.ifNo X36.here hx rfl (hb hby at_177) rfl ((if0 _ _).trans (feq (by decide : ¬ ((1 : Int32) = (0 : Int32)))).1) ?_
              show Steps p.tables e below (T36.setTop (mkF m 180 #[.val (.int p0), .val (.int p1), .val (.int p2), .val (.int (1 : Int32)), .val (.int (1 : Int32)), .val (.int md), .val (.int er), .val (.ref b1), .val (.int (1 : Int32)), .val (.int (2 : Int32)), .val (.int (1 : Int32)), .val (.int (1 : Int32)), .unset, .unset, .unset] [])) _
              refine XS.iload X36.here hx rfl (hb hby at_180) rfl ?_
              show Steps p.tables e below (T36.setTop (mkF m 182 #[.val (.int p0), .val (.int p1), .val (.int p2), .val (.int (1 : Int32)), .val (.int (1 : Int32)), .val (.int md), .val (.int er), .val (.ref b1), .val (.int (1 : Int32)), .val (.int (2 : Int32)), .val (.int (1 : Int32)), .val (.int (1 : Int32)), .unset, .unset, .unset] [(.int er)])) _
              refine XS.bipush X36.here hx rfl (hb hby at_182) ?_
              show Steps p.tables e below (T36.setTop (mkF m 184 #[.val (.int p0), .val (.int p1), .val (.int p2), .val (.int (1 : Int32)), .val (.int (1 : Int32)), .val (.int md), .val (.int er), .val (.ref b1), .val (.int (1 : Int32)), .val (.int (2 : Int32)), .val (.int (1 : Int32)), .val (.int (1 : Int32)), .unset, .unset, .unset] [(.int (70 : Int32)), (.int er)])) _
              refine XS.icmpNo X36.here hx rfl (hb hby at_184) rfl (feq h70).1 ?_
              show Steps p.tables e below (T36.setTop (mkF m 187 #[.val (.int p0), .val (.int p1), .val (.int p2), .val (.int (1 : Int32)), .val (.int (1 : Int32)), .val (.int md), .val (.int er), .val (.ref b1), .val (.int (1 : Int32)), .val (.int (2 : Int32)), .val (.int (1 : Int32)), .val (.int (1 : Int32)), .unset, .unset, .unset] [])) _
              refine XS.iloadN X36.here hx rfl (hb hby at_187) rfl ?_
              show Steps p.tables e below (T36.setTop (mkF m 188 #[.val (.int p0), .val (.int p1), .val (.int p2), .val (.int (1 : Int32)), .val (.int (1 : Int32)), .val (.int md), .val (.int er), .val (.ref b1), .val (.int (1 : Int32)), .val (.int (2 : Int32)), .val (.int (1 : Int32)), .val (.int (1 : Int32)), .unset, .unset, .unset] [(.int p0)])) _
              refine XS.goto X36.here hx rfl (pc0 := 188) (pc' := 192) rfl (hb hby at_188) (by decide) (by decide) ?_
              show Steps p.tables e below (T36.setTop (mkF m 192 #[.val (.int p0), .val (.int p1), .val (.int p2), .val (.int (1 : Int32)), .val (.int (1 : Int32)), .val (.int md), .val (.int er), .val (.ref b1), .val (.int (1 : Int32)), .val (.int (2 : Int32)), .val (.int (1 : Int32)), .val (.int (1 : Int32)), .unset, .unset, .unset] [(.int p0)])) _
              refine XS.istore X36.here hx rfl (hb hby at_192) rfl (l' := #[.val (.int p0), .val (.int p1), .val (.int p2), .val (.int (1 : Int32)), .val (.int (1 : Int32)), .val (.int md), .val (.int er), .val (.ref b1), .val (.int (1 : Int32)), .val (.int (2 : Int32)), .val (.int (1 : Int32)), .val (.int (1 : Int32)), .val (.int p0), .unset, .unset]) rfl ?_
              exact k
            have pre45 : ∀ t, Steps p.tables e below (T36.setTop (mkF m 207 #[.val (.int p0), .val (.int p1), .val (.int p2), .val (.int (1 : Int32)), .val (.int (1 : Int32)), .val (.int md), .val (.int er), .val (.ref b1), .val (.int (1 : Int32)), .val (.int (2 : Int32)), .val (.int (1 : Int32)), .val (.int (1 : Int32)), .val (.int p0), .val (.int (0 : Int32)), .unset] [])) t → Steps p.tables e below (s₁.setTop (entryFrame m #[(.int p0), (.int p1), (.int p2)] maxLocals)) t := by
              intro t k
              refine pre44 t ?_
              show Steps p.tables e below (T36.setTop (mkF m 194 #[.val (.int p0), .val (.int p1), .val (.int p2), .val (.int (1 : Int32)), .val (.int (1 : Int32)), .val (.int md), .val (.int er), .val (.ref b1), .val (.int (1 : Int32)), .val (.int (2 : Int32)), .val (.int (1 : Int32)), .val (.int (1 : Int32)), .val (.int p0), .unset, .unset] [])) _
              refine XS.iload X36.here hx rfl (hb hby at_194) rfl ?_
              show Steps p.tables e below (T36.setTop (mkF m 196 #[.val (.int p0), .val (.int p1), .val (.int p2), .val (.int (1 : Int32)), .val (.int (1 : Int32)), .val (.int md), .val (.int er), .val (.ref b1), .val (.int (1 : Int32)), .val (.int (2 : Int32)), .val (.int (1 : Int32)), .val (.int (1 : Int32)), .val (.int p0), .unset, .unset] [(.int (1 : Int32))])) _
              refine XS.ifNo X36.here hx rfl (hb hby at_196) rfl ((if0 _ _).trans (feq (by decide : ¬ ((1 : Int32) = (0 : Int32)))).1) ?_
              show Steps p.tables e below (T36.setTop (mkF m 199 #[.val (.int p0), .val (.int p1), .val (.int p2), .val (.int (1 : Int32)), .val (.int (1 : Int32)), .val (.int md), .val (.int er), .val (.ref b1), .val (.int (1 : Int32)), .val (.int (2 : Int32)), .val (.int (1 : Int32)), .val (.int (1 : Int32)), .val (.int p0), .unset, .unset] [])) _
              refine XS.iconst X36.here hx rfl (hb hby at_199) ?_
              show Steps p.tables e below (T36.setTop (mkF m 200 #[.val (.int p0), .val (.int p1), .val (.int p2), .val (.int (1 : Int32)), .val (.int (1 : Int32)), .val (.int md), .val (.int er), .val (.ref b1), .val (.int (1 : Int32)), .val (.int (2 : Int32)), .val (.int (1 : Int32)), .val (.int (1 : Int32)), .val (.int p0), .unset, .unset] [(.int (0 : Int32))])) _
              refine XS.goto X36.here hx rfl (pc0 := 200) (pc' := 205) rfl (hb hby at_200) (by decide) (by decide) ?_
              show Steps p.tables e below (T36.setTop (mkF m 205 #[.val (.int p0), .val (.int p1), .val (.int p2), .val (.int (1 : Int32)), .val (.int (1 : Int32)), .val (.int md), .val (.int er), .val (.ref b1), .val (.int (1 : Int32)), .val (.int (2 : Int32)), .val (.int (1 : Int32)), .val (.int (1 : Int32)), .val (.int p0), .unset, .unset] [(.int (0 : Int32))])) _
              refine XS.istore X36.here hx rfl (hb hby at_205) rfl (l' := #[.val (.int p0), .val (.int p1), .val (.int p2), .val (.int (1 : Int32)), .val (.int (1 : Int32)), .val (.int md), .val (.int er), .val (.ref b1), .val (.int (1 : Int32)), .val (.int (2 : Int32)), .val (.int (1 : Int32)), .val (.int (1 : Int32)), .val (.int p0), .val (.int (0 : Int32)), .unset]) rfl ?_
              exact k
            obtain ⟨cq38, kq38, q38a, q38b, q38c⟩ := isOf hZ rfl E36q
            obtain ⟨_, _, ⟨T38, L38, k38, n38⟩, -, X38, ⟨Lc38, hQ38, l38, y38, z38⟩, st38⟩ := X36.virtualBack hx (y := (⟨"com/example/tideline/tideline/session/FetcherSession", "next", "()Lcom/example/tideline/tideline/session/FetcherSession$Request;"⟩ : MethodName)) (z := (⟨"com/example/tideline/tideline/session/FetcherSession", "next", "()Lcom/example/tideline/tideline/session/FetcherSession$Request;"⟩ : MethodName)) hown (mvT hZ (hw _ (List.mem_of_getElem? (i := 52) rfl))) (mvT hZ (hw _ (List.mem_of_getElem? (i := 53) rfl))) (notFace_of_selects (args := #[]) (mvT hZ (hw _ (List.mem_of_getElem? (i := 55) rfl)))) (mvT hZ (hw _ (List.mem_of_getElem? (i := 55) rfl))) (mvT hZ (hw _ (List.mem_of_getElem? (i := 54) rfl))) (by decide) (backOf (W := 0) (rm7 l Z a0 hw [] b1 p0 (0 : Int32) l2_25 f2_25 (.ref xb3) (.ref rq25) T36.heap n0 Zs37 F0_36q F1_36q F2_36q F3_36q F4_36q F5_36q E36q g_b1) hZ (hw _ (List.mem_of_getElem? (i := 56) rfl)) (hw _ (List.mem_of_getElem? (i := 2) rfl)) (by decide) (by decide)) q38a q38c (g := (mkF m 209 #[.val (.int p0), .val (.int p1), .val (.int p2), .val (.int (1 : Int32)), .val (.int (1 : Int32)), .val (.int md), .val (.int er), .val (.ref b1), .val (.int (1 : Int32)), .val (.int (2 : Int32)), .val (.int (1 : Int32)), .val (.int (1 : Int32)), .val (.int p0), .val (.int (0 : Int32)), .unset] [(.ref b1)])) rfl (by rw [hml]; rfl) (Steps.refl _) (argsL := []) (rest := []) (lenOf pd_7 rfl) rfl (by show 2 * 0 + _ ≤ _; exact Nat.le_of_eq rfl) (hb hby at_209) (fun _ _ => ⟨rfl, rfl, (by decide : 25 + 7 ≤ _), (by decide : 144 + 46 ≤ _)⟩)
            dsimp only [Pt.U, Pt.locs, Pt.cells, Pt.slots] at X38 l38 y38 z38 st38 hQ38
            subst l38 y38 z38
            obtain ⟨rq38, l2_38, f2_38, x3_38, rfl, N38q, K38q, E38q, Fid_38q, Fepoch_38q, Fheld_38q, Fpending_38q, Flisting_38q, Fforgetting_38q, Pl38q, Pf38q, Er38q, ge38q, RsessionId_38q, Repoch_38q, Rlisted_38q, Rforgotten_38q, hx38q⟩ := hQ38
            have N38 := Fr.app N36 N38q
            have hlt38 : b1 < T36.heap.size := E36q.lt
            have E_b1_38 := E36q.keep K38q
            have P_l2_5_38 := P_l2_5_36.keep K38q (allS hlt5 all0)
            have P_f2_5_38 := P_f2_5_36.keep K38q (allS hlt5 all0)
            have P_l2_25_38 := P_l2_25_36.keep K38q (allS hlt25 all0)
            have P_f2_25_38 := P_f2_25_36.keep K38q (allS hlt25 all0)
            have Zs39 := Nat.le_trans Zs37 K38q.1
            have ne_rq38 : rq38 ≠ b1 := fun q => Nat.lt_irrefl _ (Nat.lt_of_lt_of_le (q ▸ hlt38) ge38q)
            have pre46 : ∀ t, Steps p.tables e below (T38.setTop (mkF m 214 #[.val (.int p0), .val (.int p1), .val (.int p2), .val (.int (1 : Int32)), .val (.int (1 : Int32)), .val (.int md), .val (.int er), .val (.ref b1), .val (.int (1 : Int32)), .val (.int (2 : Int32)), .val (.int (1 : Int32)), .val (.int (1 : Int32)), .val (.int p0), .val (.int (0 : Int32)), .val (.ref rq38)] [])) t → Steps p.tables e below (s₁.setTop (entryFrame m #[(.int p0), (.int p1), (.int p2)] maxLocals)) t := by
              intro t k
              refine pre45 t ?_
              show Steps p.tables e below (T36.setTop (mkF m 207 #[.val (.int p0), .val (.int p1), .val (.int p2), .val (.int (1 : Int32)), .val (.int (1 : Int32)), .val (.int md), .val (.int er), .val (.ref b1), .val (.int (1 : Int32)), .val (.int (2 : Int32)), .val (.int (1 : Int32)), .val (.int (1 : Int32)), .val (.int p0), .val (.int (0 : Int32)), .unset] [])) _
              refine XS.aload X36.here hx rfl (hb hby at_207) rfl rfl ?_
              show Steps p.tables e below (T36.setTop (mkF m 209 #[.val (.int p0), .val (.int p1), .val (.int p2), .val (.int (1 : Int32)), .val (.int (1 : Int32)), .val (.int md), .val (.int er), .val (.ref b1), .val (.int (1 : Int32)), .val (.int (2 : Int32)), .val (.int (1 : Int32)), .val (.int (1 : Int32)), .val (.int p0), .val (.int (0 : Int32)), .unset] [(.ref b1)])) _
              refine st38.trans ?_
              show Steps p.tables e below (T38.setTop (mkF m 212 #[.val (.int p0), .val (.int p1), .val (.int p2), .val (.int (1 : Int32)), .val (.int (1 : Int32)), .val (.int md), .val (.int er), .val (.ref b1), .val (.int (1 : Int32)), .val (.int (2 : Int32)), .val (.int (1 : Int32)), .val (.int (1 : Int32)), .val (.int p0), .val (.int (0 : Int32)), .unset] [(.ref rq38)])) _
              refine XS.astore X38.here hx rfl (hb hby at_212) rfl rfl (l' := #[.val (.int p0), .val (.int p1), .val (.int p2), .val (.int (1 : Int32)), .val (.int (1 : Int32)), .val (.int md), .val (.int er), .val (.ref b1), .val (.int (1 : Int32)), .val (.int (2 : Int32)), .val (.int (1 : Int32)), .val (.int (1 : Int32)), .val (.int p0), .val (.int (0 : Int32)), .val (.ref rq38)]) rfl ?_
              exact k
            have pre47 : ∀ t, Steps p.tables e below (T38.setTop (mkF m 221 #[.val (.int p0), .val (.int p1), .val (.int p2), .val (.int (1 : Int32)), .val (.int (1 : Int32)), .val (.int md), .val (.int er), .val (.ref b1), .val (.int (1 : Int32)), .val (.int (2 : Int32)), .val (.int (1 : Int32)), .val (.int (1 : Int32)), .val (.int p0), .val (.int (0 : Int32)), .val (.ref rq38)] [])) t → Steps p.tables e below (s₁.setTop (entryFrame m #[(.int p0), (.int p1), (.int p2)] maxLocals)) t := by
              intro t k
              refine pre46 t ?_
              show Steps p.tables e below (T38.setTop (mkF m 214 #[.val (.int p0), .val (.int p1), .val (.int p2), .val (.int (1 : Int32)), .val (.int (1 : Int32)), .val (.int md), .val (.int er), .val (.ref b1), .val (.int (1 : Int32)), .val (.int (2 : Int32)), .val (.int (1 : Int32)), .val (.int (1 : Int32)), .val (.int p0), .val (.int (0 : Int32)), .val (.ref rq38)] [])) _
              refine XS.iload X38.here hx rfl (hb hby at_214) rfl ?_
              show Steps p.tables e below (T38.setTop (mkF m 216 #[.val (.int p0), .val (.int p1), .val (.int p2), .val (.int (1 : Int32)), .val (.int (1 : Int32)), .val (.int md), .val (.int er), .val (.ref b1), .val (.int (1 : Int32)), .val (.int (2 : Int32)), .val (.int (1 : Int32)), .val (.int (1 : Int32)), .val (.int p0), .val (.int (0 : Int32)), .val (.ref rq38)] [(.int (1 : Int32))])) _
              refine XS.iload X38.here hx rfl (hb hby at_216) rfl ?_
              show Steps p.tables e below (T38.setTop (mkF m 218 #[.val (.int p0), .val (.int p1), .val (.int p2), .val (.int (1 : Int32)), .val (.int (1 : Int32)), .val (.int md), .val (.int er), .val (.ref b1), .val (.int (1 : Int32)), .val (.int (2 : Int32)), .val (.int (1 : Int32)), .val (.int (1 : Int32)), .val (.int p0), .val (.int (0 : Int32)), .val (.ref rq38)] [(.int (1 : Int32)), (.int (1 : Int32))])) _
              refine XS.icmpNo X38.here hx rfl (hb hby at_218) rfl (teq (rfl : (1 : Int32) = (1 : Int32))).2 ?_
              exact k
            obtain ⟨cq40, kq40, q40a, q40b, q40c⟩ := isOf hZ rfl E38q
            obtain ⟨_, _, ⟨T40, L40, k40, n40⟩, -, X40, ⟨Lc40, hQ40, l40, y40, z40⟩, st40⟩ := X38.virtualBack hx (y := (⟨"com/example/tideline/tideline/session/FetcherSession", "incremental", "()Z"⟩ : MethodName)) (z := (⟨"com/example/tideline/tideline/session/FetcherSession", "incremental", "()Z"⟩ : MethodName)) hown (mvT hZ (hw _ (List.mem_of_getElem? (i := 86) rfl))) (mvT hZ (hw _ (List.mem_of_getElem? (i := 87) rfl))) (notFace_of_selects (args := #[]) (mvT hZ (hw _ (List.mem_of_getElem? (i := 89) rfl)))) (mvT hZ (hw _ (List.mem_of_getElem? (i := 89) rfl))) (mvT hZ (hw _ (List.mem_of_getElem? (i := 88) rfl))) (by decide) (backOf (W := 0) (rm11z l Z a0 hw [] b1 (0 : Int32) T38.heap n0 Zs39 Fepoch_38q rfl) hZ (hw _ (List.mem_of_getElem? (i := 90) rfl)) (hw _ (List.mem_of_getElem? (i := 2) rfl)) (by decide) (by decide)) q40a q40c (g := (mkF m 223 #[.val (.int p0), .val (.int p1), .val (.int p2), .val (.int (1 : Int32)), .val (.int (1 : Int32)), .val (.int md), .val (.int er), .val (.ref b1), .val (.int (1 : Int32)), .val (.int (2 : Int32)), .val (.int (1 : Int32)), .val (.int (1 : Int32)), .val (.int p0), .val (.int (0 : Int32)), .val (.ref rq38)] [(.ref b1)])) rfl (by rw [hml]; rfl) (Steps.refl _) (argsL := []) (rest := []) (lenOf pd_10 rfl) rfl (by show 2 * 0 + _ ≤ _; exact Nat.le_of_eq rfl) (hb hby at_223) (fun _ _ => ⟨rfl, rfl, (by decide : 32 + 0 ≤ _), (by decide : 190 + 0 ≤ _)⟩)
            dsimp only [Pt.U, Pt.locs, Pt.cells, Pt.slots] at X40 l40 y40 z40 st40 hQ40
            subst l40 y40 z40
            obtain ⟨rfl, N40q, e40q⟩ := hQ40
            have N40 := Fr.app N38 N40q
            have pre48 : ∀ t, Steps p.tables e below (T40.setTop (mkF m 228 #[.val (.int p0), .val (.int p1), .val (.int p2), .val (.int (1 : Int32)), .val (.int (1 : Int32)), .val (.int md), .val (.int er), .val (.ref b1), .val (.int (1 : Int32)), .val (.int (2 : Int32)), .val (.int (1 : Int32)), .val (.int (1 : Int32)), .val (.int p0), .val (.int (0 : Int32)), .val (.ref rq38)] [(.int (0 : Int32)), (.int (0 : Int32))])) t → Steps p.tables e below (s₁.setTop (entryFrame m #[(.int p0), (.int p1), (.int p2)] maxLocals)) t := by
              intro t k
              refine pre47 t ?_
              show Steps p.tables e below (T38.setTop (mkF m 221 #[.val (.int p0), .val (.int p1), .val (.int p2), .val (.int (1 : Int32)), .val (.int (1 : Int32)), .val (.int md), .val (.int er), .val (.ref b1), .val (.int (1 : Int32)), .val (.int (2 : Int32)), .val (.int (1 : Int32)), .val (.int (1 : Int32)), .val (.int p0), .val (.int (0 : Int32)), .val (.ref rq38)] [])) _
              refine XS.aload X38.here hx rfl (hb hby at_221) rfl rfl ?_
              show Steps p.tables e below (T38.setTop (mkF m 223 #[.val (.int p0), .val (.int p1), .val (.int p2), .val (.int (1 : Int32)), .val (.int (1 : Int32)), .val (.int md), .val (.int er), .val (.ref b1), .val (.int (1 : Int32)), .val (.int (2 : Int32)), .val (.int (1 : Int32)), .val (.int (1 : Int32)), .val (.int p0), .val (.int (0 : Int32)), .val (.ref rq38)] [(.ref b1)])) _
              refine st40.trans ?_
              show Steps p.tables e below (T40.setTop (mkF m 226 #[.val (.int p0), .val (.int p1), .val (.int p2), .val (.int (1 : Int32)), .val (.int (1 : Int32)), .val (.int md), .val (.int er), .val (.ref b1), .val (.int (1 : Int32)), .val (.int (2 : Int32)), .val (.int (1 : Int32)), .val (.int (1 : Int32)), .val (.int p0), .val (.int (0 : Int32)), .val (.ref rq38)] [(.int (0 : Int32))])) _
              refine XS.iload X40.here hx rfl (hb hby at_226) rfl ?_
              exact k
            have pre49 : ∀ t, Steps p.tables e below (T40.setTop (mkF m 236 #[.val (.int p0), .val (.int p1), .val (.int p2), .val (.int (1 : Int32)), .val (.int (1 : Int32)), .val (.int md), .val (.int er), .val (.ref b1), .val (.int (1 : Int32)), .val (.int (2 : Int32)), .val (.int (1 : Int32)), .val (.int (1 : Int32)), .val (.int p0), .val (.int (0 : Int32)), .val (.ref rq38)] [(.int (0 : Int32)), (.int (0 : Int32))])) t → Steps p.tables e below (s₁.setTop (entryFrame m #[(.int p0), (.int p1), (.int p2)] maxLocals)) t := by
              intro t k
              refine pre48 t ?_
              show Steps p.tables e below (T40.setTop (mkF m 228 #[.val (.int p0), .val (.int p1), .val (.int p2), .val (.int (1 : Int32)), .val (.int (1 : Int32)), .val (.int md), .val (.int er), .val (.ref b1), .val (.int (1 : Int32)), .val (.int (2 : Int32)), .val (.int (1 : Int32)), .val (.int (1 : Int32)), .val (.int p0), .val (.int (0 : Int32)), .val (.ref rq38)] [(.int (0 : Int32)), (.int (0 : Int32))])) _
              refine XS.ifYes X40.here hx rfl (pc0 := 228) (pc' := 235) rfl (hb hby at_228) rfl ((if0 _ _).trans (teq (rfl : (0 : Int32) = (0 : Int32))).1) (by decide) (by decide) ?_
              show Steps p.tables e below (T40.setTop (mkF m 235 #[.val (.int p0), .val (.int p1), .val (.int p2), .val (.int (1 : Int32)), .val (.int (1 : Int32)), .val (.int md), .val (.int er), .val (.ref b1), .val (.int (1 : Int32)), .val (.int (2 : Int32)), .val (.int (1 : Int32)), .val (.int (1 : Int32)), .val (.int p0), .val (.int (0 : Int32)), .val (.ref rq38)] [(.int (0 : Int32))])) _
              refine XS.iconst X40.here hx rfl (hb hby at_235) ?_
              exact k
            obtain ⟨cq41, kq41, q41a, q41b, q41c⟩ := isOf hZ e40q Er38q
            obtain ⟨_, _, ⟨T41, L41, k41, n41⟩, -, X41, ⟨Lc41, hQ41, l41, y41, z41⟩, st41⟩ := X40.virtualBack hx (y := (⟨"com/example/tideline/tideline/session/FetcherSession$Request", "sessionId", "()I"⟩ : MethodName)) (z := (⟨"com/example/tideline/tideline/session/FetcherSession$Request", "sessionId", "()I"⟩ : MethodName)) hown (mvT hZ (hw _ (List.mem_of_getElem? (i := 91) rfl))) (mvT hZ (hw _ (List.mem_of_getElem? (i := 92) rfl))) (notFace_of_selects (args := #[]) (mvT hZ (hw _ (List.mem_of_getElem? (i := 94) rfl)))) (mvT hZ (hw _ (List.mem_of_getElem? (i := 94) rfl))) (mvT hZ (hw _ (List.mem_of_getElem? (i := 93) rfl))) (by decide) (backOf (W := 0) (rm12 l Z a0 hw [] rq38 p0 T38.heap n0 Zs39 RsessionId_38q) hZ (hw _ (List.mem_of_getElem? (i := 95) rfl)) (hw _ (List.mem_of_getElem? (i := 59) rfl)) (by decide) (by decide)) q41a q41c (g := (mkF m 241 #[.val (.int p0), .val (.int p1), .val (.int p2), .val (.int (1 : Int32)), .val (.int (1 : Int32)), .val (.int md), .val (.int er), .val (.ref b1), .val (.int (1 : Int32)), .val (.int (2 : Int32)), .val (.int (1 : Int32)), .val (.int (1 : Int32)), .val (.int p0), .val (.int (0 : Int32)), .val (.ref rq38)] [(.ref rq38)])) rfl (by rw [hml]; rfl) (Steps.refl _) (argsL := []) (rest := []) (lenOf pd_11 rfl) rfl (by show 2 * 0 + _ ≤ _; exact Nat.le_of_eq rfl) (hb hby at_241) (fun _ _ => ⟨rfl, e40q, (by decide : 32 + 0 ≤ _), (by decide : 190 + 0 ≤ _)⟩)
            dsimp only [Pt.U, Pt.locs, Pt.cells, Pt.slots] at X41 l41 y41 z41 st41 hQ41
            subst l41 y41 z41
            obtain ⟨rfl, N41q, e41q⟩ := hQ41
            have N41 := Fr.app N40 N41q
            obtain ⟨cq42, kq42, q42a, q42b, q42c⟩ := isOf hZ e41q Er38q
            obtain ⟨_, _, ⟨T42, L42, k42, n42⟩, -, X42, ⟨Lc42, hQ42, l42, y42, z42⟩, st42⟩ := X41.virtualBack hx (y := (⟨"com/example/tideline/tideline/session/FetcherSession$Request", "epoch", "()I"⟩ : MethodName)) (z := (⟨"com/example/tideline/tideline/session/FetcherSession$Request", "epoch", "()I"⟩ : MethodName)) hown (mvT hZ (hw _ (List.mem_of_getElem? (i := 96) rfl))) (mvT hZ (hw _ (List.mem_of_getElem? (i := 97) rfl))) (notFace_of_selects (args := #[]) (mvT hZ (hw _ (List.mem_of_getElem? (i := 99) rfl)))) (mvT hZ (hw _ (List.mem_of_getElem? (i := 99) rfl))) (mvT hZ (hw _ (List.mem_of_getElem? (i := 98) rfl))) (by decide) (backOf (W := 0) (rm13 l Z a0 hw [] rq38 (0 : Int32) T38.heap n0 Zs39 Repoch_38q) hZ (hw _ (List.mem_of_getElem? (i := 100) rfl)) (hw _ (List.mem_of_getElem? (i := 59) rfl)) (by decide) (by decide)) q42a q42c (g := (mkF m 251 #[.val (.int p0), .val (.int p1), .val (.int p2), .val (.int (1 : Int32)), .val (.int (1 : Int32)), .val (.int md), .val (.int er), .val (.ref b1), .val (.int (1 : Int32)), .val (.int (2 : Int32)), .val (.int (1 : Int32)), .val (.int (1 : Int32)), .val (.int p0), .val (.int (0 : Int32)), .val (.ref rq38)] [(.ref rq38)])) rfl (by rw [hml]; rfl) (Steps.refl _) (argsL := []) (rest := []) (lenOf pd_11 rfl) rfl (by show 2 * 0 + _ ≤ _; exact Nat.le_of_eq rfl) (hb hby at_251) (fun _ _ => ⟨rfl, e41q, (by decide : 32 + 0 ≤ _), (by decide : 190 + 0 ≤ _)⟩)
            dsimp only [Pt.U, Pt.locs, Pt.cells, Pt.slots] at X42 l42 y42 z42 st42 hQ42
            subst l42 y42 z42
            obtain ⟨rfl, N42q, e42q⟩ := hQ42
            have N42 := Fr.app N41 N42q
            obtain ⟨fs, hr, hrun, hended, hW, hsame⟩ := X42.leave (v := some (.int (1 : Int32))) (fun h => by rw [Bd.returns] at h; cases h)
            refine ⟨_, _, pre49 _ ?_, hrun, hended, _, _, rfl, ?_, ⟨_, rfl⟩, hW, hsame.mono (by decide) (by decide)⟩
            · show Steps p.tables e below (T40.setTop (mkF m 236 #[.val (.int p0), .val (.int p1), .val (.int p2), .val (.int (1 : Int32)), .val (.int (1 : Int32)), .val (.int md), .val (.int er), .val (.ref b1), .val (.int (1 : Int32)), .val (.int (2 : Int32)), .val (.int (1 : Int32)), .val (.int (1 : Int32)), .val (.int p0), .val (.int (0 : Int32)), .val (.ref rq38)] [(.int (0 : Int32)), (.int (0 : Int32))])) _
              refine XS.icmpNo X40.here hx rfl (hb hby at_236) rfl (teq (rfl : (0 : Int32) = (0 : Int32))).2 ?_
              show Steps p.tables e below (T40.setTop (mkF m 239 #[.val (.int p0), .val (.int p1), .val (.int p2), .val (.int (1 : Int32)), .val (.int (1 : Int32)), .val (.int md), .val (.int er), .val (.ref b1), .val (.int (1 : Int32)), .val (.int (2 : Int32)), .val (.int (1 : Int32)), .val (.int (1 : Int32)), .val (.int p0), .val (.int (0 : Int32)), .val (.ref rq38)] [])) _
              refine XS.aload X40.here hx rfl (hb hby at_239) rfl rfl ?_
              show Steps p.tables e below (T40.setTop (mkF m 241 #[.val (.int p0), .val (.int p1), .val (.int p2), .val (.int (1 : Int32)), .val (.int (1 : Int32)), .val (.int md), .val (.int er), .val (.ref b1), .val (.int (1 : Int32)), .val (.int (2 : Int32)), .val (.int (1 : Int32)), .val (.int (1 : Int32)), .val (.int p0), .val (.int (0 : Int32)), .val (.ref rq38)] [(.ref rq38)])) _
              refine st41.trans ?_
              show Steps p.tables e below (T41.setTop (mkF m 244 #[.val (.int p0), .val (.int p1), .val (.int p2), .val (.int (1 : Int32)), .val (.int (1 : Int32)), .val (.int md), .val (.int er), .val (.ref b1), .val (.int (1 : Int32)), .val (.int (2 : Int32)), .val (.int (1 : Int32)), .val (.int (1 : Int32)), .val (.int p0), .val (.int (0 : Int32)), .val (.ref rq38)] [(.int p0)])) _
              refine XS.iload X41.here hx rfl (hb hby at_244) rfl ?_
              show Steps p.tables e below (T41.setTop (mkF m 246 #[.val (.int p0), .val (.int p1), .val (.int p2), .val (.int (1 : Int32)), .val (.int (1 : Int32)), .val (.int md), .val (.int er), .val (.ref b1), .val (.int (1 : Int32)), .val (.int (2 : Int32)), .val (.int (1 : Int32)), .val (.int (1 : Int32)), .val (.int p0), .val (.int (0 : Int32)), .val (.ref rq38)] [(.int p0), (.int p0)])) _
              refine XS.icmpNo X41.here hx rfl (hb hby at_246) rfl (teq (rfl : p0 = p0)).2 ?_
              show Steps p.tables e below (T41.setTop (mkF m 249 #[.val (.int p0), .val (.int p1), .val (.int p2), .val (.int (1 : Int32)), .val (.int (1 : Int32)), .val (.int md), .val (.int er), .val (.ref b1), .val (.int (1 : Int32)), .val (.int (2 : Int32)), .val (.int (1 : Int32)), .val (.int (1 : Int32)), .val (.int p0), .val (.int (0 : Int32)), .val (.ref rq38)] [])) _
              refine XS.aload X41.here hx rfl (hb hby at_249) rfl rfl ?_
              show Steps p.tables e below (T41.setTop (mkF m 251 #[.val (.int p0), .val (.int p1), .val (.int p2), .val (.int (1 : Int32)), .val (.int (1 : Int32)), .val (.int md), .val (.int er), .val (.ref b1), .val (.int (1 : Int32)), .val (.int (2 : Int32)), .val (.int (1 : Int32)), .val (.int (1 : Int32)), .val (.int p0), .val (.int (0 : Int32)), .val (.ref rq38)] [(.ref rq38)])) _
              refine st42.trans ?_
              show Steps p.tables e below (T42.setTop (mkF m 254 #[.val (.int p0), .val (.int p1), .val (.int p2), .val (.int (1 : Int32)), .val (.int (1 : Int32)), .val (.int md), .val (.int er), .val (.ref b1), .val (.int (1 : Int32)), .val (.int (2 : Int32)), .val (.int (1 : Int32)), .val (.int (1 : Int32)), .val (.int p0), .val (.int (0 : Int32)), .val (.ref rq38)] [(.int (0 : Int32))])) _
              refine XS.iload X42.here hx rfl (hb hby at_254) rfl ?_
              show Steps p.tables e below (T42.setTop (mkF m 256 #[.val (.int p0), .val (.int p1), .val (.int p2), .val (.int (1 : Int32)), .val (.int (1 : Int32)), .val (.int md), .val (.int er), .val (.ref b1), .val (.int (1 : Int32)), .val (.int (2 : Int32)), .val (.int (1 : Int32)), .val (.int (1 : Int32)), .val (.int p0), .val (.int (0 : Int32)), .val (.ref rq38)] [(.int (0 : Int32)), (.int (0 : Int32))])) _
              refine XS.icmpNo X42.here hx rfl (hb hby at_256) rfl (teq (rfl : (0 : Int32) = (0 : Int32))).2 ?_
              show Steps p.tables e below (T42.setTop (mkF m 259 #[.val (.int p0), .val (.int p1), .val (.int p2), .val (.int (1 : Int32)), .val (.int (1 : Int32)), .val (.int md), .val (.int er), .val (.ref b1), .val (.int (1 : Int32)), .val (.int (2 : Int32)), .val (.int (1 : Int32)), .val (.int (1 : Int32)), .val (.int p0), .val (.int (0 : Int32)), .val (.ref rq38)] [])) _
              refine XS.iconst X42.here hx rfl (hb hby at_259) ?_
              show Steps p.tables e below (T42.setTop (mkF m 260 #[.val (.int p0), .val (.int p1), .val (.int p2), .val (.int (1 : Int32)), .val (.int (1 : Int32)), .val (.int md), .val (.int er), .val (.ref b1), .val (.int (1 : Int32)), .val (.int (2 : Int32)), .val (.int (1 : Int32)), .val (.int (1 : Int32)), .val (.int p0), .val (.int (0 : Int32)), .val (.ref rq38)] [(.int (1 : Int32))])) _
              refine XS.goto X42.here hx rfl (pc0 := 260) (pc' := 264) rfl (hb hby at_260) (by decide) (by decide) ?_
              show Steps p.tables e below (T42.setTop (mkF m 264 #[.val (.int p0), .val (.int p1), .val (.int p2), .val (.int (1 : Int32)), .val (.int (1 : Int32)), .val (.int md), .val (.int er), .val (.ref b1), .val (.int (1 : Int32)), .val (.int (2 : Int32)), .val (.int (1 : Int32)), .val (.int (1 : Int32)), .val (.int p0), .val (.int (0 : Int32)), .val (.ref rq38)] [(.int (1 : Int32))])) _
              exact retN X42 hx (t := .boolean) Bd.returns (by simp) (hb hby at_264) hr
            · show Q0 Z p0 p1 p2 h0 n0 _ T42.heap _
              rw [e42q]
              exact ⟨rfl, N42⟩
          · skip
            obtain ⟨cq43, kq43, q43a, q43b, q43c⟩ := isOf hZ rfl E27q
            obtain ⟨_, _, ⟨T43, L43, k43, n43⟩, -, X43, ⟨Lc43, hQ43, l43, y43, z43⟩, st43⟩ := X27.virtualBack hx (y := (⟨"com/example/tideline/tideline/session/FetcherSession", "startOver", "(S)Z"⟩ : MethodName)) (z := (⟨"com/example/tideline/tideline/session/FetcherSession", "startOver", "(S)Z"⟩ : MethodName)) hown (mvT hZ (hw _ (List.mem_of_getElem? (i := 81) rfl))) (mvT hZ (hw _ (List.mem_of_getElem? (i := 82) rfl))) (notFace_of_selects (args := #[]) (mvT hZ (hw _ (List.mem_of_getElem? (i := 84) rfl)))) (mvT hZ (hw _ (List.mem_of_getElem? (i := 84) rfl))) (mvT hZ (hw _ (List.mem_of_getElem? (i := 83) rfl))) (by decide) (backOf (W := 0) (rm10c l Z a0 hw [] b1 er p0 ((1 : Int32) + (1 : Int32)) l2_25 f2_25 (.ref xb3) (.ref rq25) T27.heap n0 Zs28 F0_27q F1_27q F2_27q F3_27q F4_27q F5_27q E27q g_b1 (by decide) h70 h71) hZ (hw _ (List.mem_of_getElem? (i := 85) rfl)) (hw _ (List.mem_of_getElem? (i := 2) rfl)) (by decide) (by decide)) q43a q43c (g := (mkF m 139 #[.val (.int p0), .val (.int p1), .val (.int p2), .val (.int (1 : Int32)), .val (.int (1 : Int32)), .val (.int md), .val (.int er), .val (.ref b1), .val (.int (1 : Int32)), .val (.int (2 : Int32)), .unset, .unset, .unset, .unset, .unset] [(.int er), (.ref b1)])) rfl (by rw [hml]; rfl) (Steps.refl _) (argsL := [(.int er)]) (rest := []) (lenOf pd_9 rfl) rfl (by show 2 * 0 + _ ≤ _; exact Nat.le_of_eq rfl) (hb hby at_139) (fun _ _ => ⟨rfl, rfl, (by decide : 25 + 0 ≤ _), (by decide : 144 + 0 ≤ _)⟩)
            dsimp only [Pt.U, Pt.locs, Pt.cells, Pt.slots] at X43 l43 y43 z43 st43 hQ43
            subst l43 y43 z43
            obtain ⟨rfl, N43q, K43q, E43q, F0_43q, F1_43q, F2_43q, F3_43q, F4_43q, F5_43q⟩ := hQ43
            have N43 := Fr.app N27 N43q
            have E_b1_43 := E27q.keep K43q
            have P_l2_5_43 := P_l2_5_27.keep K43q (allS hlt5 all0)
            have P_f2_5_43 := P_f2_5_27.keep K43q (allS hlt5 all0)
            have E_rq25_43 := E_rq25_27.keep K43q
            have F_rq25_sessionId_43 := F_rq25_sessionId_27.keep K43q (ninS ne_rq25 nin0)
            have F_rq25_epoch_43 := F_rq25_epoch_27.keep K43q (ninS ne_rq25 nin0)
            have F_rq25_listed_43 := F_rq25_listed_27.keep K43q (ninS ne_rq25 nin0)
            have F_rq25_forgotten_43 := F_rq25_forgotten_27.keep K43q (ninS ne_rq25 nin0)
            have P_l2_25_43 := P_l2_25_27.keep K43q (allS hlt25 all0)
            have P_f2_25_43 := P_f2_25_27.keep K43q (allS hlt25 all0)
            have Zs44 := Nat.le_trans Zs28 K43q.1
            have pre50 : ∀ t, Steps p.tables e below (T43.setTop (mkF m 144 #[.val (.int p0), .val (.int p1), .val (.int p2), .val (.int (1 : Int32)), .val (.int (1 : Int32)), .val (.int md), .val (.int er), .val (.ref b1), .val (.int (1 : Int32)), .val (.int (2 : Int32)), .val (.int (0 : Int32)), .unset, .unset, .unset, .unset] [])) t → Steps p.tables e below (s₁.setTop (entryFrame m #[(.int p0), (.int p1), (.int p2)] maxLocals)) t := by
              intro t k
              refine pre33 t ?_
              show Steps p.tables e below (T27.setTop (mkF m 135 #[.val (.int p0), .val (.int p1), .val (.int p2), .val (.int (1 : Int32)), .val (.int (1 : Int32)), .val (.int md), .val (.int er), .val (.ref b1), .val (.int (1 : Int32)), .val (.int (2 : Int32)), .unset, .unset, .unset, .unset, .unset] [])) _
              refine XS.aload X27.here hx rfl (hb hby at_135) rfl rfl ?_
              show Steps p.tables e below (T27.setTop (mkF m 137 #[.val (.int p0), .val (.int p1), .val (.int p2), .val (.int (1 : Int32)), .val (.int (1 : Int32)), .val (.int md), .val (.int er), .val (.ref b1), .val (.int (1 : Int32)), .val (.int (2 : Int32)), .unset, .unset, .unset, .unset, .unset] [(.ref b1)])) _
              refine XS.iload X27.here hx rfl (hb hby at_137) rfl ?_
              show Steps p.tables e below (T27.setTop (mkF m 139 #[.val (.int p0), .val (.int p1), .val (.int p2), .val (.int (1 : Int32)), .val (.int (1 : Int32)), .val (.int md), .val (.int er), .val (.ref b1), .val (.int (1 : Int32)), .val (.int (2 : Int32)), .unset, .unset, .unset, .unset, .unset] [(.int er), (.ref b1)])) _
              refine st43.trans ?_
              show Steps p.tables e below (T43.setTop (mkF m 142 #[.val (.int p0), .val (.int p1), .val (.int p2), .val (.int (1 : Int32)), .val (.int (1 : Int32)), .val (.int md), .val (.int er), .val (.ref b1), .val (.int (1 : Int32)), .val (.int (2 : Int32)), .unset, .unset, .unset, .unset, .unset] [(.int (0 : Int32))])) _
              refine XS.istore X43.here hx rfl (hb hby at_142) rfl (l' := #[.val (.int p0), .val (.int p1), .val (.int p2), .val (.int (1 : Int32)), .val (.int (1 : Int32)), .val (.int md), .val (.int er), .val (.ref b1), .val (.int (1 : Int32)), .val (.int (2 : Int32)), .val (.int (0 : Int32)), .unset, .unset, .unset, .unset]) rfl ?_
              exact k
            have pre51 : ∀ t, Steps p.tables e below (T43.setTop (mkF m 170 #[.val (.int p0), .val (.int p1), .val (.int p2), .val (.int (1 : Int32)), .val (.int (1 : Int32)), .val (.int md), .val (.int er), .val (.ref b1), .val (.int (1 : Int32)), .val (.int (2 : Int32)), .val (.int (0 : Int32)), .val (.int (0 : Int32)), .unset, .unset, .unset] [])) t → Steps p.tables e below (s₁.setTop (entryFrame m #[(.int p0), (.int p1), (.int p2)] maxLocals)) t := by
              intro t k
              refine pre50 t ?_
              show Steps p.tables e below (T43.setTop (mkF m 144 #[.val (.int p0), .val (.int p1), .val (.int p2), .val (.int (1 : Int32)), .val (.int (1 : Int32)), .val (.int md), .val (.int er), .val (.ref b1), .val (.int (1 : Int32)), .val (.int (2 : Int32)), .val (.int (0 : Int32)), .unset, .unset, .unset, .unset] [])) _
              refine XS.iload X43.here hx rfl (hb hby at_144) rfl ?_
              show Steps p.tables e below (T43.setTop (mkF m 146 #[.val (.int p0), .val (.int p1), .val (.int p2), .val (.int (1 : Int32)), .val (.int (1 : Int32)), .val (.int md), .val (.int er), .val (.ref b1), .val (.int (1 : Int32)), .val (.int (2 : Int32)), .val (.int (0 : Int32)), .unset, .unset, .unset, .unset] [(.int (1 : Int32))])) _
              refine XS.ifNo X43.here hx rfl (hb hby at_146) rfl ((if0 _ _).trans (feq (by decide : ¬ ((1 : Int32) = (0 : Int32)))).1) ?_
              show Steps p.tables e below (T43.setTop (mkF m 149 #[.val (.int p0), .val (.int p1), .val (.int p2), .val (.int (1 : Int32)), .val (.int (1 : Int32)), .val (.int md), .val (.int er), .val (.ref b1), .val (.int (1 : Int32)), .val (.int (2 : Int32)), .val (.int (0 : Int32)), .unset, .unset, .unset, .unset] [])) _
              refine XS.iload X43.here hx rfl (hb hby at_149) rfl ?_
              show Steps p.tables e below (T43.setTop (mkF m 151 #[.val (.int p0), .val (.int p1), .val (.int p2), .val (.int (1 : Int32)), .val (.int (1 : Int32)), .val (.int md), .val (.int er), .val (.ref b1), .val (.int (1 : Int32)), .val (.int (2 : Int32)), .val (.int (0 : Int32)), .unset, .unset, .unset, .unset] [(.int er)])) _
              refine XS.bipush X43.here hx rfl (hb hby at_151) ?_
              show Steps p.tables e below (T43.setTop (mkF m 153 #[.val (.int p0), .val (.int p1), .val (.int p2), .val (.int (1 : Int32)), .val (.int (1 : Int32)), .val (.int md), .val (.int er), .val (.ref b1), .val (.int (1 : Int32)), .val (.int (2 : Int32)), .val (.int (0 : Int32)), .unset, .unset, .unset, .unset] [(.int (70 : Int32)), (.int er)])) _
              refine XS.icmpNo X43.here hx rfl (hb hby at_153) rfl (feq h70).1 ?_
              show Steps p.tables e below (T43.setTop (mkF m 156 #[.val (.int p0), .val (.int p1), .val (.int p2), .val (.int (1 : Int32)), .val (.int (1 : Int32)), .val (.int md), .val (.int er), .val (.ref b1), .val (.int (1 : Int32)), .val (.int (2 : Int32)), .val (.int (0 : Int32)), .unset, .unset, .unset, .unset] [])) _
              refine XS.iload X43.here hx rfl (hb hby at_156) rfl ?_
              show Steps p.tables e below (T43.setTop (mkF m 158 #[.val (.int p0), .val (.int p1), .val (.int p2), .val (.int (1 : Int32)), .val (.int (1 : Int32)), .val (.int md), .val (.int er), .val (.ref b1), .val (.int (1 : Int32)), .val (.int (2 : Int32)), .val (.int (0 : Int32)), .unset, .unset, .unset, .unset] [(.int er)])) _
              refine XS.bipush X43.here hx rfl (hb hby at_158) ?_
              show Steps p.tables e below (T43.setTop (mkF m 160 #[.val (.int p0), .val (.int p1), .val (.int p2), .val (.int (1 : Int32)), .val (.int (1 : Int32)), .val (.int md), .val (.int er), .val (.ref b1), .val (.int (1 : Int32)), .val (.int (2 : Int32)), .val (.int (0 : Int32)), .unset, .unset, .unset, .unset] [(.int (71 : Int32)), (.int er)])) _
              refine XS.icmpYes X43.here hx rfl (pc0 := 160) (pc' := 167) rfl (hb hby at_160) rfl (feq h71).2 (by decide) (by decide) ?_
              show Steps p.tables e below (T43.setTop (mkF m 167 #[.val (.int p0), .val (.int p1), .val (.int p2), .val (.int (1 : Int32)), .val (.int (1 : Int32)), .val (.int md), .val (.int er), .val (.ref b1), .val (.int (1 : Int32)), .val (.int (2 : Int32)), .val (.int (0 : Int32)), .unset, .unset, .unset, .unset] [])) _
              refine XS.iconst X43.here hx rfl (hb hby at_167) ?_
              show Steps p.tables e below (T43.setTop (mkF m 168 #[.val (.int p0), .val (.int p1), .val (.int p2), .val (.int (1 : Int32)), .val (.int (1 : Int32)), .val (.int md), .val (.int er), .val (.ref b1), .val (.int (1 : Int32)), .val (.int (2 : Int32)), .val (.int (0 : Int32)), .unset, .unset, .unset, .unset] [(.int (0 : Int32))])) _
              refine XS.istore X43.here hx rfl (hb hby at_168) rfl (l' := #[.val (.int p0), .val (.int p1), .val (.int p2), .val (.int (1 : Int32)), .val (.int (1 : Int32)), .val (.int md), .val (.int er), .val (.ref b1), .val (.int (1 : Int32)), .val (.int (2 : Int32)), .val (.int (0 : Int32)), .val (.int (0 : Int32)), .unset, .unset, .unset]) rfl ?_
              exact k
            have pre52 : ∀ t, Steps p.tables e below (T43.setTop (mkF m 194 #[.val (.int p0), .val (.int p1), .val (.int p2), .val (.int (1 : Int32)), .val (.int (1 : Int32)), .val (.int md), .val (.int er), .val (.ref b1), .val (.int (1 : Int32)), .val (.int (2 : Int32)), .val (.int (0 : Int32)), .val (.int (0 : Int32)), .val (.int p0), .unset, .unset] [])) t → Steps p.tables e below (s₁.setTop (entryFrame m #[(.int p0), (.int p1), (.int p2)] maxLocals)) t := by
              intro t k
              refine pre51 t ?_
              show Steps p.tables e below (T43.setTop (mkF m 170 #[.val (.int p0), .val (.int p1), .val (.int p2), .val (.int (1 : Int32)), .val (.int (1 : Int32)), .val (.int md), .val (.int er), .val (.ref b1), .val (.int (1 : Int32)), .val (.int (2 : Int32)), .val (.int (0 : Int32)), .val (.int (0 : Int32)), .unset, .unset, .unset] [])) _
              refine XS.iload X43.here hx rfl (hb hby at_170) rfl ?_
              show Steps p.tables e below (T43.setTop (mkF m 172 #[.val (.int p0), .val (.int p1), .val (.int p2), .val (.int (1 : Int32)), .val (.int (1 : Int32)), .val (.int md), .val (.int er), .val (.ref b1), .val (.int (1 : Int32)), .val (.int (2 : Int32)), .val (.int (0 : Int32)), .val (.int (0 : Int32)), .unset, .unset, .unset] [(.int (1 : Int32))])) _
              refine XS.ifNo X43.here hx rfl (hb hby at_172) rfl ((if0 _ _).trans (feq (by decide : ¬ ((1 : Int32) = (0 : Int32)))).1) ?_
              show Steps p.tables e below (T43.setTop (mkF m 175 #[.val (.int p0), .val (.int p1), .val (.int p2), .val (.int (1 : Int32)), .val (.int (1 : Int32)), .val (.int md), .val (.int er), .val (.ref b1), .val (.int (1 : Int32)), .val (.int (2 : Int32)), .val (.int (0 : Int32)), .val (.int (0 : Int32)), .unset, .unset, .unset] [])) _
              refine XS.iload X43.here hx rfl (hb hby at_175) rfl ?_
              show Steps p.tables e below (T43.setTop (mkF m 177 #[.val (.int p0), .val (.int p1), .val (.int p2), .val (.int (1 : Int32)), .val (.int (1 : Int32)), .val (.int md), .val (.int er), .val (.ref b1), .val (.int (1 : Int32)), .val (.int (2 : Int32)), .val (.int (0 : Int32)), .val (.int (0 : Int32)), .unset, .unset, .unset] [(.int (0 : Int32))])) _
              refine XS.ifYes X43.here hx rfl (pc0 := 177) (pc' := 187) rfl (hb hby at_177) rfl ((if0 _ _).trans (teq (rfl : (0 : Int32) = (0 : Int32))).1) (by decide) (by decide) ?_
              show Steps p.tables e below (T43.setTop (mkF m 187 #[.val (.int p0), .val (.int p1), .val (.int p2), .val (.int (1 : Int32)), .val (.int (1 : Int32)), .val (.int md), .val (.int er), .val (.ref b1), .val (.int (1 : Int32)), .val (.int (2 : Int32)), .val (.int (0 : Int32)), .val (.int (0 : Int32)), .unset, .unset, .unset] [])) _
              refine XS.iloadN X43.here hx rfl (hb hby at_187) rfl ?_
              show Steps p.tables e below (T43.setTop (mkF m 188 #[.val (.int p0), .val (.int p1), .val (.int p2), .val (.int (1 : Int32)), .val (.int (1 : Int32)), .val (.int md), .val (.int er), .val (.ref b1), .val (.int (1 : Int32)), .val (.int (2 : Int32)), .val (.int (0 : Int32)), .val (.int (0 : Int32)), .unset, .unset, .unset] [(.int p0)])) _
              refine XS.goto X43.here hx rfl (pc0 := 188) (pc' := 192) rfl (hb hby at_188) (by decide) (by decide) ?_
              show Steps p.tables e below (T43.setTop (mkF m 192 #[.val (.int p0), .val (.int p1), .val (.int p2), .val (.int (1 : Int32)), .val (.int (1 : Int32)), .val (.int md), .val (.int er), .val (.ref b1), .val (.int (1 : Int32)), .val (.int (2 : Int32)), .val (.int (0 : Int32)), .val (.int (0 : Int32)), .unset, .unset, .unset] [(.int p0)])) _
              refine XS.istore X43.here hx rfl (hb hby at_192) rfl (l' := #[.val (.int p0), .val (.int p1), .val (.int p2), .val (.int (1 : Int32)), .val (.int (1 : Int32)), .val (.int md), .val (.int er), .val (.ref b1), .val (.int (1 : Int32)), .val (.int (2 : Int32)), .val (.int (0 : Int32)), .val (.int (0 : Int32)), .val (.int p0), .unset, .unset]) rfl ?_
              exact k
            have pre53 : ∀ t, Steps p.tables e below (T43.setTop (mkF m 207 #[.val (.int p0), .val (.int p1), .val (.int p2), .val (.int (1 : Int32)), .val (.int (1 : Int32)), .val (.int md), .val (.int er), .val (.ref b1), .val (.int (1 : Int32)), .val (.int (2 : Int32)), .val (.int (0 : Int32)), .val (.int (0 : Int32)), .val (.int p0), .val (.int (2 : Int32)), .unset] [])) t → Steps p.tables e below (s₁.setTop (entryFrame m #[(.int p0), (.int p1), (.int p2)] maxLocals)) t := by
              intro t k
              refine pre52 t ?_
              show Steps p.tables e below (T43.setTop (mkF m 194 #[.val (.int p0), .val (.int p1), .val (.int p2), .val (.int (1 : Int32)), .val (.int (1 : Int32)), .val (.int md), .val (.int er), .val (.ref b1), .val (.int (1 : Int32)), .val (.int (2 : Int32)), .val (.int (0 : Int32)), .val (.int (0 : Int32)), .val (.int p0), .unset, .unset] [])) _
              refine XS.iload X43.here hx rfl (hb hby at_194) rfl ?_
              show Steps p.tables e below (T43.setTop (mkF m 196 #[.val (.int p0), .val (.int p1), .val (.int p2), .val (.int (1 : Int32)), .val (.int (1 : Int32)), .val (.int md), .val (.int er), .val (.ref b1), .val (.int (1 : Int32)), .val (.int (2 : Int32)), .val (.int (0 : Int32)), .val (.int (0 : Int32)), .val (.int p0), .unset, .unset] [(.int (0 : Int32))])) _
              refine XS.ifYes X43.here hx rfl (pc0 := 196) (pc' := 203) rfl (hb hby at_196) rfl ((if0 _ _).trans (teq (rfl : (0 : Int32) = (0 : Int32))).1) (by decide) (by decide) ?_
              show Steps p.tables e below (T43.setTop (mkF m 203 #[.val (.int p0), .val (.int p1), .val (.int p2), .val (.int (1 : Int32)), .val (.int (1 : Int32)), .val (.int md), .val (.int er), .val (.ref b1), .val (.int (1 : Int32)), .val (.int (2 : Int32)), .val (.int (0 : Int32)), .val (.int (0 : Int32)), .val (.int p0), .unset, .unset] [])) _
              refine XS.iload X43.here hx rfl (hb hby at_203) rfl ?_
              show Steps p.tables e below (T43.setTop (mkF m 205 #[.val (.int p0), .val (.int p1), .val (.int p2), .val (.int (1 : Int32)), .val (.int (1 : Int32)), .val (.int md), .val (.int er), .val (.ref b1), .val (.int (1 : Int32)), .val (.int (2 : Int32)), .val (.int (0 : Int32)), .val (.int (0 : Int32)), .val (.int p0), .unset, .unset] [(.int (2 : Int32))])) _
              refine XS.istore X43.here hx rfl (hb hby at_205) rfl (l' := #[.val (.int p0), .val (.int p1), .val (.int p2), .val (.int (1 : Int32)), .val (.int (1 : Int32)), .val (.int md), .val (.int er), .val (.ref b1), .val (.int (1 : Int32)), .val (.int (2 : Int32)), .val (.int (0 : Int32)), .val (.int (0 : Int32)), .val (.int p0), .val (.int (2 : Int32)), .unset]) rfl ?_
              exact k
            obtain ⟨cq45, kq45, q45a, q45b, q45c⟩ := isOf hZ rfl E43q
            obtain ⟨_, _, ⟨T45, L45, k45, n45⟩, -, X45, ⟨Lc45, hQ45, l45, y45, z45⟩, st45⟩ := X43.virtualBack hx (y := (⟨"com/example/tideline/tideline/session/FetcherSession", "next", "()Lcom/example/tideline/tideline/session/FetcherSession$Request;"⟩ : MethodName)) (z := (⟨"com/example/tideline/tideline/session/FetcherSession", "next", "()Lcom/example/tideline/tideline/session/FetcherSession$Request;"⟩ : MethodName)) hown (mvT hZ (hw _ (List.mem_of_getElem? (i := 52) rfl))) (mvT hZ (hw _ (List.mem_of_getElem? (i := 53) rfl))) (notFace_of_selects (args := #[]) (mvT hZ (hw _ (List.mem_of_getElem? (i := 55) rfl)))) (mvT hZ (hw _ (List.mem_of_getElem? (i := 55) rfl))) (mvT hZ (hw _ (List.mem_of_getElem? (i := 54) rfl))) (by decide) (backOf (W := 0) (rm7 l Z a0 hw [] b1 p0 ((1 : Int32) + (1 : Int32)) l2_25 f2_25 (.ref xb3) (.ref rq25) T43.heap n0 Zs44 F0_43q F1_43q F2_43q F3_43q F4_43q F5_43q E43q g_b1) hZ (hw _ (List.mem_of_getElem? (i := 56) rfl)) (hw _ (List.mem_of_getElem? (i := 2) rfl)) (by decide) (by decide)) q45a q45c (g := (mkF m 209 #[.val (.int p0), .val (.int p1), .val (.int p2), .val (.int (1 : Int32)), .val (.int (1 : Int32)), .val (.int md), .val (.int er), .val (.ref b1), .val (.int (1 : Int32)), .val (.int (2 : Int32)), .val (.int (0 : Int32)), .val (.int (0 : Int32)), .val (.int p0), .val (.int (2 : Int32)), .unset] [(.ref b1)])) rfl (by rw [hml]; rfl) (Steps.refl _) (argsL := []) (rest := []) (lenOf pd_7 rfl) rfl (by show 2 * 0 + _ ≤ _; exact Nat.le_of_eq rfl) (hb hby at_209) (fun _ _ => ⟨rfl, rfl, (by decide : 25 + 7 ≤ _), (by decide : 144 + 46 ≤ _)⟩)
            dsimp only [Pt.U, Pt.locs, Pt.cells, Pt.slots] at X45 l45 y45 z45 st45 hQ45
            subst l45 y45 z45
            obtain ⟨rq45, l2_45, f2_45, x3_45, rfl, N45q, K45q, E45q, Fid_45q, Fepoch_45q, Fheld_45q, Fpending_45q, Flisting_45q, Fforgetting_45q, Pl45q, Pf45q, Er45q, ge45q, RsessionId_45q, Repoch_45q, Rlisted_45q, Rforgotten_45q, hx45q⟩ := hQ45
            have N45 := Fr.app N43 N45q
            have hlt45 : b1 < T43.heap.size := E43q.lt
            have E_b1_45 := E43q.keep K45q
            have P_l2_5_45 := P_l2_5_43.keep K45q (allS hlt5 all0)
            have P_f2_5_45 := P_f2_5_43.keep K45q (allS hlt5 all0)
            have P_l2_25_45 := P_l2_25_43.keep K45q (allS hlt25 all0)
            have P_f2_25_45 := P_f2_25_43.keep K45q (allS hlt25 all0)
            have Zs46 := Nat.le_trans Zs44 K45q.1
            have ne_rq45 : rq45 ≠ b1 := fun q => Nat.lt_irrefl _ (Nat.lt_of_lt_of_le (q ▸ hlt45) ge45q)
            obtain rfl : f2_25 = x3_45 := (hx45q (by decide)).symm
            have pre54 : ∀ t, Steps p.tables e below (T45.setTop (mkF m 214 #[.val (.int p0), .val (.int p1), .val (.int p2), .val (.int (1 : Int32)), .val (.int (1 : Int32)), .val (.int md), .val (.int er), .val (.ref b1), .val (.int (1 : Int32)), .val (.int (2 : Int32)), .val (.int (0 : Int32)), .val (.int (0 : Int32)), .val (.int p0), .val (.int (2 : Int32)), .val (.ref rq45)] [])) t → Steps p.tables e below (s₁.setTop (entryFrame m #[(.int p0), (.int p1), (.int p2)] maxLocals)) t := by
              intro t k
              refine pre53 t ?_
              show Steps p.tables e below (T43.setTop (mkF m 207 #[.val (.int p0), .val (.int p1), .val (.int p2), .val (.int (1 : Int32)), .val (.int (1 : Int32)), .val (.int md), .val (.int er), .val (.ref b1), .val (.int (1 : Int32)), .val (.int (2 : Int32)), .val (.int (0 : Int32)), .val (.int (0 : Int32)), .val (.int p0), .val (.int (2 : Int32)), .unset] [])) _
              refine XS.aload X43.here hx rfl (hb hby at_207) rfl rfl ?_
              show Steps p.tables e below (T43.setTop (mkF m 209 #[.val (.int p0), .val (.int p1), .val (.int p2), .val (.int (1 : Int32)), .val (.int (1 : Int32)), .val (.int md), .val (.int er), .val (.ref b1), .val (.int (1 : Int32)), .val (.int (2 : Int32)), .val (.int (0 : Int32)), .val (.int (0 : Int32)), .val (.int p0), .val (.int (2 : Int32)), .unset] [(.ref b1)])) _
              refine st45.trans ?_
              show Steps p.tables e below (T45.setTop (mkF m 212 #[.val (.int p0), .val (.int p1), .val (.int p2), .val (.int (1 : Int32)), .val (.int (1 : Int32)), .val (.int md), .val (.int er), .val (.ref b1), .val (.int (1 : Int32)), .val (.int (2 : Int32)), .val (.int (0 : Int32)), .val (.int (0 : Int32)), .val (.int p0), .val (.int (2 : Int32)), .unset] [(.ref rq45)])) _
              refine XS.astore X45.here hx rfl (hb hby at_212) rfl rfl (l' := #[.val (.int p0), .val (.int p1), .val (.int p2), .val (.int (1 : Int32)), .val (.int (1 : Int32)), .val (.int md), .val (.int er), .val (.ref b1), .val (.int (1 : Int32)), .val (.int (2 : Int32)), .val (.int (0 : Int32)), .val (.int (0 : Int32)), .val (.int p0), .val (.int (2 : Int32)), .val (.ref rq45)]) rfl ?_
              exact k
            have pre55 : ∀ t, Steps p.tables e below (T45.setTop (mkF m 221 #[.val (.int p0), .val (.int p1), .val (.int p2), .val (.int (1 : Int32)), .val (.int (1 : Int32)), .val (.int md), .val (.int er), .val (.ref b1), .val (.int (1 : Int32)), .val (.int (2 : Int32)), .val (.int (0 : Int32)), .val (.int (0 : Int32)), .val (.int p0), .val (.int (2 : Int32)), .val (.ref rq45)] [])) t → Steps p.tables e below (s₁.setTop (entryFrame m #[(.int p0), (.int p1), (.int p2)] maxLocals)) t := by
              intro t k
              refine pre54 t ?_
              show Steps p.tables e below (T45.setTop (mkF m 214 #[.val (.int p0), .val (.int p1), .val (.int p2), .val (.int (1 : Int32)), .val (.int (1 : Int32)), .val (.int md), .val (.int er), .val (.ref b1), .val (.int (1 : Int32)), .val (.int (2 : Int32)), .val (.int (0 : Int32)), .val (.int (0 : Int32)), .val (.int p0), .val (.int (2 : Int32)), .val (.ref rq45)] [])) _
              refine XS.iload X45.here hx rfl (hb hby at_214) rfl ?_
              show Steps p.tables e below (T45.setTop (mkF m 216 #[.val (.int p0), .val (.int p1), .val (.int p2), .val (.int (1 : Int32)), .val (.int (1 : Int32)), .val (.int md), .val (.int er), .val (.ref b1), .val (.int (1 : Int32)), .val (.int (2 : Int32)), .val (.int (0 : Int32)), .val (.int (0 : Int32)), .val (.int p0), .val (.int (2 : Int32)), .val (.ref rq45)] [(.int (0 : Int32))])) _
              refine XS.iload X45.here hx rfl (hb hby at_216) rfl ?_
              show Steps p.tables e below (T45.setTop (mkF m 218 #[.val (.int p0), .val (.int p1), .val (.int p2), .val (.int (1 : Int32)), .val (.int (1 : Int32)), .val (.int md), .val (.int er), .val (.ref b1), .val (.int (1 : Int32)), .val (.int (2 : Int32)), .val (.int (0 : Int32)), .val (.int (0 : Int32)), .val (.int p0), .val (.int (2 : Int32)), .val (.ref rq45)] [(.int (0 : Int32)), (.int (0 : Int32))])) _
              refine XS.icmpNo X45.here hx rfl (hb hby at_218) rfl (teq (rfl : (0 : Int32) = (0 : Int32))).2 ?_
              exact k
            obtain ⟨cq47, kq47, q47a, q47b, q47c⟩ := isOf hZ rfl E45q
            obtain ⟨_, _, ⟨T47, L47, k47, n47⟩, -, X47, ⟨Lc47, hQ47, l47, y47, z47⟩, st47⟩ := X45.virtualBack hx (y := (⟨"com/example/tideline/tideline/session/FetcherSession", "incremental", "()Z"⟩ : MethodName)) (z := (⟨"com/example/tideline/tideline/session/FetcherSession", "incremental", "()Z"⟩ : MethodName)) hown (mvT hZ (hw _ (List.mem_of_getElem? (i := 86) rfl))) (mvT hZ (hw _ (List.mem_of_getElem? (i := 87) rfl))) (notFace_of_selects (args := #[]) (mvT hZ (hw _ (List.mem_of_getElem? (i := 89) rfl)))) (mvT hZ (hw _ (List.mem_of_getElem? (i := 89) rfl))) (mvT hZ (hw _ (List.mem_of_getElem? (i := 88) rfl))) (by decide) (backOf (W := 0) (rm11n l Z a0 hw [] b1 ((1 : Int32) + (1 : Int32)) T45.heap n0 Zs46 Fepoch_45q (by decide)) hZ (hw _ (List.mem_of_getElem? (i := 90) rfl)) (hw _ (List.mem_of_getElem? (i := 2) rfl)) (by decide) (by decide)) q47a q47c (g := (mkF m 223 #[.val (.int p0), .val (.int p1), .val (.int p2), .val (.int (1 : Int32)), .val (.int (1 : Int32)), .val (.int md), .val (.int er), .val (.ref b1), .val (.int (1 : Int32)), .val (.int (2 : Int32)), .val (.int (0 : Int32)), .val (.int (0 : Int32)), .val (.int p0), .val (.int (2 : Int32)), .val (.ref rq45)] [(.ref b1)])) rfl (by rw [hml]; rfl) (Steps.refl _) (argsL := []) (rest := []) (lenOf pd_10 rfl) rfl (by show 2 * 0 + _ ≤ _; exact Nat.le_of_eq rfl) (hb hby at_223) (fun _ _ => ⟨rfl, rfl, (by decide : 32 + 0 ≤ _), (by decide : 190 + 0 ≤ _)⟩)
            dsimp only [Pt.U, Pt.locs, Pt.cells, Pt.slots] at X47 l47 y47 z47 st47 hQ47
            subst l47 y47 z47
            obtain ⟨rfl, N47q, e47q⟩ := hQ47
            have N47 := Fr.app N45 N47q
            have pre56 : ∀ t, Steps p.tables e below (T47.setTop (mkF m 228 #[.val (.int p0), .val (.int p1), .val (.int p2), .val (.int (1 : Int32)), .val (.int (1 : Int32)), .val (.int md), .val (.int er), .val (.ref b1), .val (.int (1 : Int32)), .val (.int (2 : Int32)), .val (.int (0 : Int32)), .val (.int (0 : Int32)), .val (.int p0), .val (.int (2 : Int32)), .val (.ref rq45)] [(.int (2 : Int32)), (.int (1 : Int32))])) t → Steps p.tables e below (s₁.setTop (entryFrame m #[(.int p0), (.int p1), (.int p2)] maxLocals)) t := by
              intro t k
              refine pre55 t ?_
              show Steps p.tables e below (T45.setTop (mkF m 221 #[.val (.int p0), .val (.int p1), .val (.int p2), .val (.int (1 : Int32)), .val (.int (1 : Int32)), .val (.int md), .val (.int er), .val (.ref b1), .val (.int (1 : Int32)), .val (.int (2 : Int32)), .val (.int (0 : Int32)), .val (.int (0 : Int32)), .val (.int p0), .val (.int (2 : Int32)), .val (.ref rq45)] [])) _
              refine XS.aload X45.here hx rfl (hb hby at_221) rfl rfl ?_
              show Steps p.tables e below (T45.setTop (mkF m 223 #[.val (.int p0), .val (.int p1), .val (.int p2), .val (.int (1 : Int32)), .val (.int (1 : Int32)), .val (.int md), .val (.int er), .val (.ref b1), .val (.int (1 : Int32)), .val (.int (2 : Int32)), .val (.int (0 : Int32)), .val (.int (0 : Int32)), .val (.int p0), .val (.int (2 : Int32)), .val (.ref rq45)] [(.ref b1)])) _
              refine st47.trans ?_
              show Steps p.tables e below (T47.setTop (mkF m 226 #[.val (.int p0), .val (.int p1), .val (.int p2), .val (.int (1 : Int32)), .val (.int (1 : Int32)), .val (.int md), .val (.int er), .val (.ref b1), .val (.int (1 : Int32)), .val (.int (2 : Int32)), .val (.int (0 : Int32)), .val (.int (0 : Int32)), .val (.int p0), .val (.int (2 : Int32)), .val (.ref rq45)] [(.int (1 : Int32))])) _
              refine XS.iload X47.here hx rfl (hb hby at_226) rfl ?_
              exact k
            have pre57 : ∀ t, Steps p.tables e below (T47.setTop (mkF m 236 #[.val (.int p0), .val (.int p1), .val (.int p2), .val (.int (1 : Int32)), .val (.int (1 : Int32)), .val (.int md), .val (.int er), .val (.ref b1), .val (.int (1 : Int32)), .val (.int (2 : Int32)), .val (.int (0 : Int32)), .val (.int (0 : Int32)), .val (.int p0), .val (.int (2 : Int32)), .val (.ref rq45)] [(.int (1 : Int32)), (.int (1 : Int32))])) t → Steps p.tables e below (s₁.setTop (entryFrame m #[(.int p0), (.int p1), (.int p2)] maxLocals)) t := by
              intro t k
              refine pre56 t ?_
              show Steps p.tables e below (T47.setTop (mkF m 228 #[.val (.int p0), .val (.int p1), .val (.int p2), .val (.int (1 : Int32)), .val (.int (1 : Int32)), .val (.int md), .val (.int er), .val (.ref b1), .val (.int (1 : Int32)), .val (.int (2 : Int32)), .val (.int (0 : Int32)), .val (.int (0 : Int32)), .val (.int p0), .val (.int (2 : Int32)), .val (.ref rq45)] [(.int (2 : Int32)), (.int (1 : Int32))])) _
              refine XS.ifNo X47.here hx rfl (hb hby at_228) rfl ((if0 _ _).trans (feq (by decide : ¬ ((2 : Int32) = (0 : Int32)))).1) ?_
              show Steps p.tables e below (T47.setTop (mkF m 231 #[.val (.int p0), .val (.int p1), .val (.int p2), .val (.int (1 : Int32)), .val (.int (1 : Int32)), .val (.int md), .val (.int er), .val (.ref b1), .val (.int (1 : Int32)), .val (.int (2 : Int32)), .val (.int (0 : Int32)), .val (.int (0 : Int32)), .val (.int p0), .val (.int (2 : Int32)), .val (.ref rq45)] [(.int (1 : Int32))])) _
              refine XS.iconst X47.here hx rfl (hb hby at_231) ?_
              show Steps p.tables e below (T47.setTop (mkF m 232 #[.val (.int p0), .val (.int p1), .val (.int p2), .val (.int (1 : Int32)), .val (.int (1 : Int32)), .val (.int md), .val (.int er), .val (.ref b1), .val (.int (1 : Int32)), .val (.int (2 : Int32)), .val (.int (0 : Int32)), .val (.int (0 : Int32)), .val (.int p0), .val (.int (2 : Int32)), .val (.ref rq45)] [(.int (1 : Int32)), (.int (1 : Int32))])) _
              refine XS.goto X47.here hx rfl (pc0 := 232) (pc' := 236) rfl (hb hby at_232) (by decide) (by decide) ?_
              exact k
            obtain ⟨cq48, kq48, q48a, q48b, q48c⟩ := isOf hZ e47q Er45q
            obtain ⟨_, _, ⟨T48, L48, k48, n48⟩, -, X48, ⟨Lc48, hQ48, l48, y48, z48⟩, st48⟩ := X47.virtualBack hx (y := (⟨"com/example/tideline/tideline/session/FetcherSession$Request", "sessionId", "()I"⟩ : MethodName)) (z := (⟨"com/example/tideline/tideline/session/FetcherSession$Request", "sessionId", "()I"⟩ : MethodName)) hown (mvT hZ (hw _ (List.mem_of_getElem? (i := 91) rfl))) (mvT hZ (hw _ (List.mem_of_getElem? (i := 92) rfl))) (notFace_of_selects (args := #[]) (mvT hZ (hw _ (List.mem_of_getElem? (i := 94) rfl)))) (mvT hZ (hw _ (List.mem_of_getElem? (i := 94) rfl))) (mvT hZ (hw _ (List.mem_of_getElem? (i := 93) rfl))) (by decide) (backOf (W := 0) (rm12 l Z a0 hw [] rq45 p0 T45.heap n0 Zs46 RsessionId_45q) hZ (hw _ (List.mem_of_getElem? (i := 95) rfl)) (hw _ (List.mem_of_getElem? (i := 59) rfl)) (by decide) (by decide)) q48a q48c (g := (mkF m 241 #[.val (.int p0), .val (.int p1), .val (.int p2), .val (.int (1 : Int32)), .val (.int (1 : Int32)), .val (.int md), .val (.int er), .val (.ref b1), .val (.int (1 : Int32)), .val (.int (2 : Int32)), .val (.int (0 : Int32)), .val (.int (0 : Int32)), .val (.int p0), .val (.int (2 : Int32)), .val (.ref rq45)] [(.ref rq45)])) rfl (by rw [hml]; rfl) (Steps.refl _) (argsL := []) (rest := []) (lenOf pd_11 rfl) rfl (by show 2 * 0 + _ ≤ _; exact Nat.le_of_eq rfl) (hb hby at_241) (fun _ _ => ⟨rfl, e47q, (by decide : 32 + 0 ≤ _), (by decide : 190 + 0 ≤ _)⟩)
            dsimp only [Pt.U, Pt.locs, Pt.cells, Pt.slots] at X48 l48 y48 z48 st48 hQ48
            subst l48 y48 z48
            obtain ⟨rfl, N48q, e48q⟩ := hQ48
            have N48 := Fr.app N47 N48q
            obtain ⟨cq49, kq49, q49a, q49b, q49c⟩ := isOf hZ e48q Er45q
            obtain ⟨_, _, ⟨T49, L49, k49, n49⟩, -, X49, ⟨Lc49, hQ49, l49, y49, z49⟩, st49⟩ := X48.virtualBack hx (y := (⟨"com/example/tideline/tideline/session/FetcherSession$Request", "epoch", "()I"⟩ : MethodName)) (z := (⟨"com/example/tideline/tideline/session/FetcherSession$Request", "epoch", "()I"⟩ : MethodName)) hown (mvT hZ (hw _ (List.mem_of_getElem? (i := 96) rfl))) (mvT hZ (hw _ (List.mem_of_getElem? (i := 97) rfl))) (notFace_of_selects (args := #[]) (mvT hZ (hw _ (List.mem_of_getElem? (i := 99) rfl)))) (mvT hZ (hw _ (List.mem_of_getElem? (i := 99) rfl))) (mvT hZ (hw _ (List.mem_of_getElem? (i := 98) rfl))) (by decide) (backOf (W := 0) (rm13 l Z a0 hw [] rq45 ((1 : Int32) + (1 : Int32)) T45.heap n0 Zs46 Repoch_45q) hZ (hw _ (List.mem_of_getElem? (i := 100) rfl)) (hw _ (List.mem_of_getElem? (i := 59) rfl)) (by decide) (by decide)) q49a q49c (g := (mkF m 251 #[.val (.int p0), .val (.int p1), .val (.int p2), .val (.int (1 : Int32)), .val (.int (1 : Int32)), .val (.int md), .val (.int er), .val (.ref b1), .val (.int (1 : Int32)), .val (.int (2 : Int32)), .val (.int (0 : Int32)), .val (.int (0 : Int32)), .val (.int p0), .val (.int (2 : Int32)), .val (.ref rq45)] [(.ref rq45)])) rfl (by rw [hml]; rfl) (Steps.refl _) (argsL := []) (rest := []) (lenOf pd_11 rfl) rfl (by show 2 * 0 + _ ≤ _; exact Nat.le_of_eq rfl) (hb hby at_251) (fun _ _ => ⟨rfl, e48q, (by decide : 32 + 0 ≤ _), (by decide : 190 + 0 ≤ _)⟩)
            dsimp only [Pt.U, Pt.locs, Pt.cells, Pt.slots] at X49 l49 y49 z49 st49 hQ49
            subst l49 y49 z49
            obtain ⟨rfl, N49q, e49q⟩ := hQ49
            have N49 := Fr.app N48 N49q
            obtain ⟨fs, hr, hrun, hended, hW, hsame⟩ := X49.leave (v := some (.int (1 : Int32))) (fun h => by rw [Bd.returns] at h; cases h)
            refine ⟨_, _, pre57 _ ?_, hrun, hended, _, _, rfl, ?_, ⟨_, rfl⟩, hW, hsame.mono (by decide) (by decide)⟩
            · show Steps p.tables e below (T47.setTop (mkF m 236 #[.val (.int p0), .val (.int p1), .val (.int p2), .val (.int (1 : Int32)), .val (.int (1 : Int32)), .val (.int md), .val (.int er), .val (.ref b1), .val (.int (1 : Int32)), .val (.int (2 : Int32)), .val (.int (0 : Int32)), .val (.int (0 : Int32)), .val (.int p0), .val (.int (2 : Int32)), .val (.ref rq45)] [(.int (1 : Int32)), (.int (1 : Int32))])) _
              refine XS.icmpNo X47.here hx rfl (hb hby at_236) rfl (teq (rfl : (1 : Int32) = (1 : Int32))).2 ?_
              show Steps p.tables e below (T47.setTop (mkF m 239 #[.val (.int p0), .val (.int p1), .val (.int p2), .val (.int (1 : Int32)), .val (.int (1 : Int32)), .val (.int md), .val (.int er), .val (.ref b1), .val (.int (1 : Int32)), .val (.int (2 : Int32)), .val (.int (0 : Int32)), .val (.int (0 : Int32)), .val (.int p0), .val (.int (2 : Int32)), .val (.ref rq45)] [])) _
              refine XS.aload X47.here hx rfl (hb hby at_239) rfl rfl ?_
              show Steps p.tables e below (T47.setTop (mkF m 241 #[.val (.int p0), .val (.int p1), .val (.int p2), .val (.int (1 : Int32)), .val (.int (1 : Int32)), .val (.int md), .val (.int er), .val (.ref b1), .val (.int (1 : Int32)), .val (.int (2 : Int32)), .val (.int (0 : Int32)), .val (.int (0 : Int32)), .val (.int p0), .val (.int (2 : Int32)), .val (.ref rq45)] [(.ref rq45)])) _
              refine st48.trans ?_
              show Steps p.tables e below (T48.setTop (mkF m 244 #[.val (.int p0), .val (.int p1), .val (.int p2), .val (.int (1 : Int32)), .val (.int (1 : Int32)), .val (.int md), .val (.int er), .val (.ref b1), .val (.int (1 : Int32)), .val (.int (2 : Int32)), .val (.int (0 : Int32)), .val (.int (0 : Int32)), .val (.int p0), .val (.int (2 : Int32)), .val (.ref rq45)] [(.int p0)])) _
              refine XS.iload X48.here hx rfl (hb hby at_244) rfl ?_
              show Steps p.tables e below (T48.setTop (mkF m 246 #[.val (.int p0), .val (.int p1), .val (.int p2), .val (.int (1 : Int32)), .val (.int (1 : Int32)), .val (.int md), .val (.int er), .val (.ref b1), .val (.int (1 : Int32)), .val (.int (2 : Int32)), .val (.int (0 : Int32)), .val (.int (0 : Int32)), .val (.int p0), .val (.int (2 : Int32)), .val (.ref rq45)] [(.int p0), (.int p0)])) _
              refine XS.icmpNo X48.here hx rfl (hb hby at_246) rfl (teq (rfl : p0 = p0)).2 ?_
              show Steps p.tables e below (T48.setTop (mkF m 249 #[.val (.int p0), .val (.int p1), .val (.int p2), .val (.int (1 : Int32)), .val (.int (1 : Int32)), .val (.int md), .val (.int er), .val (.ref b1), .val (.int (1 : Int32)), .val (.int (2 : Int32)), .val (.int (0 : Int32)), .val (.int (0 : Int32)), .val (.int p0), .val (.int (2 : Int32)), .val (.ref rq45)] [])) _
              refine XS.aload X48.here hx rfl (hb hby at_249) rfl rfl ?_
              show Steps p.tables e below (T48.setTop (mkF m 251 #[.val (.int p0), .val (.int p1), .val (.int p2), .val (.int (1 : Int32)), .val (.int (1 : Int32)), .val (.int md), .val (.int er), .val (.ref b1), .val (.int (1 : Int32)), .val (.int (2 : Int32)), .val (.int (0 : Int32)), .val (.int (0 : Int32)), .val (.int p0), .val (.int (2 : Int32)), .val (.ref rq45)] [(.ref rq45)])) _
              refine st49.trans ?_
              show Steps p.tables e below (T49.setTop (mkF m 254 #[.val (.int p0), .val (.int p1), .val (.int p2), .val (.int (1 : Int32)), .val (.int (1 : Int32)), .val (.int md), .val (.int er), .val (.ref b1), .val (.int (1 : Int32)), .val (.int (2 : Int32)), .val (.int (0 : Int32)), .val (.int (0 : Int32)), .val (.int p0), .val (.int (2 : Int32)), .val (.ref rq45)] [(.int ((1 : Int32) + (1 : Int32)))])) _
              refine XS.iload X49.here hx rfl (hb hby at_254) rfl ?_
              show Steps p.tables e below (T49.setTop (mkF m 256 #[.val (.int p0), .val (.int p1), .val (.int p2), .val (.int (1 : Int32)), .val (.int (1 : Int32)), .val (.int md), .val (.int er), .val (.ref b1), .val (.int (1 : Int32)), .val (.int (2 : Int32)), .val (.int (0 : Int32)), .val (.int (0 : Int32)), .val (.int p0), .val (.int (2 : Int32)), .val (.ref rq45)] [(.int (2 : Int32)), (.int ((1 : Int32) + (1 : Int32)))])) _
              refine XS.icmpNo X49.here hx rfl (hb hby at_256) rfl (teq (by decide : ((1 : Int32) + (1 : Int32)) = (2 : Int32))).2 ?_
              show Steps p.tables e below (T49.setTop (mkF m 259 #[.val (.int p0), .val (.int p1), .val (.int p2), .val (.int (1 : Int32)), .val (.int (1 : Int32)), .val (.int md), .val (.int er), .val (.ref b1), .val (.int (1 : Int32)), .val (.int (2 : Int32)), .val (.int (0 : Int32)), .val (.int (0 : Int32)), .val (.int p0), .val (.int (2 : Int32)), .val (.ref rq45)] [])) _
              refine XS.iconst X49.here hx rfl (hb hby at_259) ?_
              show Steps p.tables e below (T49.setTop (mkF m 260 #[.val (.int p0), .val (.int p1), .val (.int p2), .val (.int (1 : Int32)), .val (.int (1 : Int32)), .val (.int md), .val (.int er), .val (.ref b1), .val (.int (1 : Int32)), .val (.int (2 : Int32)), .val (.int (0 : Int32)), .val (.int (0 : Int32)), .val (.int p0), .val (.int (2 : Int32)), .val (.ref rq45)] [(.int (1 : Int32))])) _
              refine XS.goto X49.here hx rfl (pc0 := 260) (pc' := 264) rfl (hb hby at_260) (by decide) (by decide) ?_
              show Steps p.tables e below (T49.setTop (mkF m 264 #[.val (.int p0), .val (.int p1), .val (.int p2), .val (.int (1 : Int32)), .val (.int (1 : Int32)), .val (.int md), .val (.int er), .val (.ref b1), .val (.int (1 : Int32)), .val (.int (2 : Int32)), .val (.int (0 : Int32)), .val (.int (0 : Int32)), .val (.int p0), .val (.int (2 : Int32)), .val (.ref rq45)] [(.int (1 : Int32))])) _
              exact retN X49 hx (t := .boolean) Bd.returns (by simp) (hb hby at_264) hr
            · show Q0 Z p0 p1 p2 h0 n0 _ T49.heap _
              rw [e49q]
              exact ⟨rfl, N49⟩
      · skip
        obtain ⟨rfl, -⟩ := hmo
        have pre58 : ∀ t, Steps p.tables e below (T23.setTop (mkF m 135 #[.val (.int p0), .val (.int p1), .val (.int p2), .val (.int (1 : Int32)), .val (.int (0 : Int32)), .val (.int md), .val (.int er), .val (.ref b1), .val (.int (1 : Int32)), .val (.int (1 : Int32)), .unset, .unset, .unset, .unset, .unset] [])) t → Steps p.tables e below (s₁.setTop (entryFrame m #[(.int p0), (.int p1), (.int p2)] maxLocals)) t := by
          intro t k
          refine pre30 t ?_
          show Steps p.tables e below (T23.setTop (mkF m 110 #[.val (.int p0), .val (.int p1), .val (.int p2), .val (.int (1 : Int32)), .val (.int (0 : Int32)), .val (.int md), .val (.int er), .val (.ref b1), .val (.int (1 : Int32)), .val (.int (1 : Int32)), .unset, .unset, .unset, .unset, .unset] [])) _
          refine XS.iload X23.here hx rfl (hb hby at_110) rfl ?_
          show Steps p.tables e below (T23.setTop (mkF m 112 #[.val (.int p0), .val (.int p1), .val (.int p2), .val (.int (1 : Int32)), .val (.int (0 : Int32)), .val (.int md), .val (.int er), .val (.ref b1), .val (.int (1 : Int32)), .val (.int (1 : Int32)), .unset, .unset, .unset, .unset, .unset] [(.int (0 : Int32))])) _
          refine XS.ifYes X23.here hx rfl (pc0 := 112) (pc' := 135) rfl (hb hby at_112) rfl ((if0 _ _).trans (teq (rfl : (0 : Int32) = (0 : Int32))).1) (by decide) (by decide) ?_
          exact k
        by_cases h70 : er = (70 : Int32)
        · skip
          obtain ⟨cq50, kq50, q50a, q50b, q50c⟩ := isOf hZ rfl E23q
          obtain ⟨_, _, ⟨T50, L50, k50, n50⟩, -, X50, ⟨Lc50, hQ50, l50, y50, z50⟩, st50⟩ := X23.virtualBack hx (y := (⟨"com/example/tideline/tideline/session/FetcherSession", "startOver", "(S)Z"⟩ : MethodName)) (z := (⟨"com/example/tideline/tideline/session/FetcherSession", "startOver", "(S)Z"⟩ : MethodName)) hown (mvT hZ (hw _ (List.mem_of_getElem? (i := 81) rfl))) (mvT hZ (hw _ (List.mem_of_getElem? (i := 82) rfl))) (notFace_of_selects (args := #[]) (mvT hZ (hw _ (List.mem_of_getElem? (i := 84) rfl)))) (mvT hZ (hw _ (List.mem_of_getElem? (i := 84) rfl))) (mvT hZ (hw _ (List.mem_of_getElem? (i := 83) rfl))) (by decide) (backOf (W := 0) (rm10a l Z a0 hw [] b1 er p0 (1 : Int32) l2_5 f2_5 (.ref xb3) (.ref rq5) T23.heap n0 Zs24 F0_23q F1_23q F2_23q F3_23q F4_23q F5_23q E23q g_b1 (by decide) h70) hZ (hw _ (List.mem_of_getElem? (i := 85) rfl)) (hw _ (List.mem_of_getElem? (i := 2) rfl)) (by decide) (by decide)) q50a q50c (g := (mkF m 139 #[.val (.int p0), .val (.int p1), .val (.int p2), .val (.int (1 : Int32)), .val (.int (0 : Int32)), .val (.int md), .val (.int er), .val (.ref b1), .val (.int (1 : Int32)), .val (.int (1 : Int32)), .unset, .unset, .unset, .unset, .unset] [(.int er), (.ref b1)])) rfl (by rw [hml]; rfl) (Steps.refl _) (argsL := [(.int er)]) (rest := []) (lenOf pd_9 rfl) rfl (by show 2 * 0 + _ ≤ _; exact Nat.le_of_eq rfl) (hb hby at_139) (fun _ _ => ⟨rfl, rfl, (by decide : 14 + 0 ≤ _), (by decide : 94 + 0 ≤ _)⟩)
          dsimp only [Pt.U, Pt.locs, Pt.cells, Pt.slots] at X50 l50 y50 z50 st50 hQ50
          subst l50 y50 z50
          obtain ⟨rfl, N50q, K50q, E50q, F0_50q, F1_50q, F2_50q, F3_50q, F4_50q, F5_50q⟩ := hQ50
          have N50 := Fr.app N23 N50q
          have E_b1_50 := E23q.keep K50q
          have E_rq5_50 := E_rq5_23.keep K50q
          have F_rq5_sessionId_50 := F_rq5_sessionId_23.keep K50q (ninS ne_rq5 nin0)
          have F_rq5_epoch_50 := F_rq5_epoch_23.keep K50q (ninS ne_rq5 nin0)
          have F_rq5_listed_50 := F_rq5_listed_23.keep K50q (ninS ne_rq5 nin0)
          have F_rq5_forgotten_50 := F_rq5_forgotten_23.keep K50q (ninS ne_rq5 nin0)
          have P_l2_5_50 := P_l2_5_23.keep K50q (allS hlt5 all0)
          have P_f2_5_50 := P_f2_5_23.keep K50q (allS hlt5 all0)
          have Zs51 := Nat.le_trans Zs24 K50q.1
          have pre59 : ∀ t, Steps p.tables e below (T50.setTop (mkF m 144 #[.val (.int p0), .val (.int p1), .val (.int p2), .val (.int (1 : Int32)), .val (.int (0 : Int32)), .val (.int md), .val (.int er), .val (.ref b1), .val (.int (1 : Int32)), .val (.int (1 : Int32)), .val (.int (1 : Int32)), .unset, .unset, .unset, .unset] [])) t → Steps p.tables e below (s₁.setTop (entryFrame m #[(.int p0), (.int p1), (.int p2)] maxLocals)) t := by
            intro t k
            refine pre58 t ?_
            show Steps p.tables e below (T23.setTop (mkF m 135 #[.val (.int p0), .val (.int p1), .val (.int p2), .val (.int (1 : Int32)), .val (.int (0 : Int32)), .val (.int md), .val (.int er), .val (.ref b1), .val (.int (1 : Int32)), .val (.int (1 : Int32)), .unset, .unset, .unset, .unset, .unset] [])) _
            refine XS.aload X23.here hx rfl (hb hby at_135) rfl rfl ?_
            show Steps p.tables e below (T23.setTop (mkF m 137 #[.val (.int p0), .val (.int p1), .val (.int p2), .val (.int (1 : Int32)), .val (.int (0 : Int32)), .val (.int md), .val (.int er), .val (.ref b1), .val (.int (1 : Int32)), .val (.int (1 : Int32)), .unset, .unset, .unset, .unset, .unset] [(.ref b1)])) _
            refine XS.iload X23.here hx rfl (hb hby at_137) rfl ?_
            show Steps p.tables e below (T23.setTop (mkF m 139 #[.val (.int p0), .val (.int p1), .val (.int p2), .val (.int (1 : Int32)), .val (.int (0 : Int32)), .val (.int md), .val (.int er), .val (.ref b1), .val (.int (1 : Int32)), .val (.int (1 : Int32)), .unset, .unset, .unset, .unset, .unset] [(.int er), (.ref b1)])) _
            refine st50.trans ?_
            show Steps p.tables e below (T50.setTop (mkF m 142 #[.val (.int p0), .val (.int p1), .val (.int p2), .val (.int (1 : Int32)), .val (.int (0 : Int32)), .val (.int md), .val (.int er), .val (.ref b1), .val (.int (1 : Int32)), .val (.int (1 : Int32)), .unset, .unset, .unset, .unset, .unset] [(.int (1 : Int32))])) _
            refine XS.istore X50.here hx rfl (hb hby at_142) rfl (l' := #[.val (.int p0), .val (.int p1), .val (.int p2), .val (.int (1 : Int32)), .val (.int (0 : Int32)), .val (.int md), .val (.int er), .val (.ref b1), .val (.int (1 : Int32)), .val (.int (1 : Int32)), .val (.int (1 : Int32)), .unset, .unset, .unset, .unset]) rfl ?_
            exact k
          have pre60 : ∀ t, Steps p.tables e below (T50.setTop (mkF m 170 #[.val (.int p0), .val (.int p1), .val (.int p2), .val (.int (1 : Int32)), .val (.int (0 : Int32)), .val (.int md), .val (.int er), .val (.ref b1), .val (.int (1 : Int32)), .val (.int (1 : Int32)), .val (.int (1 : Int32)), .val (.int (1 : Int32)), .unset, .unset, .unset] [])) t → Steps p.tables e below (s₁.setTop (entryFrame m #[(.int p0), (.int p1), (.int p2)] maxLocals)) t := by
            intro t k
            refine pre59 t ?_
            show Steps p.tables e below (T50.setTop (mkF m 144 #[.val (.int p0), .val (.int p1), .val (.int p2), .val (.int (1 : Int32)), .val (.int (0 : Int32)), .val (.int md), .val (.int er), .val (.ref b1), .val (.int (1 : Int32)), .val (.int (1 : Int32)), .val (.int (1 : Int32)), .unset, .unset, .unset, .unset] [])) _
            refine XS.iload X50.here hx rfl (hb hby at_144) rfl ?_
            show Steps p.tables e below (T50.setTop (mkF m 146 #[.val (.int p0), .val (.int p1), .val (.int p2), .val (.int (1 : Int32)), .val (.int (0 : Int32)), .val (.int md), .val (.int er), .val (.ref b1), .val (.int (1 : Int32)), .val (.int (1 : Int32)), .val (.int (1 : Int32)), .unset, .unset, .unset, .unset] [(.int (1 : Int32))])) _
            refine XS.ifNo X50.here hx rfl (hb hby at_146) rfl ((if0 _ _).trans (feq (by decide : ¬ ((1 : Int32) = (0 : Int32)))).1) ?_
            show Steps p.tables e below (T50.setTop (mkF m 149 #[.val (.int p0), .val (.int p1), .val (.int p2), .val (.int (1 : Int32)), .val (.int (0 : Int32)), .val (.int md), .val (.int er), .val (.ref b1), .val (.int (1 : Int32)), .val (.int (1 : Int32)), .val (.int (1 : Int32)), .unset, .unset, .unset, .unset] [])) _
            refine XS.iload X50.here hx rfl (hb hby at_149) rfl ?_
            show Steps p.tables e below (T50.setTop (mkF m 151 #[.val (.int p0), .val (.int p1), .val (.int p2), .val (.int (1 : Int32)), .val (.int (0 : Int32)), .val (.int md), .val (.int er), .val (.ref b1), .val (.int (1 : Int32)), .val (.int (1 : Int32)), .val (.int (1 : Int32)), .unset, .unset, .unset, .unset] [(.int er)])) _
            refine XS.bipush X50.here hx rfl (hb hby at_151) ?_
            show Steps p.tables e below (T50.setTop (mkF m 153 #[.val (.int p0), .val (.int p1), .val (.int p2), .val (.int (1 : Int32)), .val (.int (0 : Int32)), .val (.int md), .val (.int er), .val (.ref b1), .val (.int (1 : Int32)), .val (.int (1 : Int32)), .val (.int (1 : Int32)), .unset, .unset, .unset, .unset] [(.int (70 : Int32)), (.int er)])) _
            refine XS.icmpYes X50.here hx rfl (pc0 := 153) (pc' := 163) rfl (hb hby at_153) rfl (teq h70).1 (by decide) (by decide) ?_
            show Steps p.tables e below (T50.setTop (mkF m 163 #[.val (.int p0), .val (.int p1), .val (.int p2), .val (.int (1 : Int32)), .val (.int (0 : Int32)), .val (.int md), .val (.int er), .val (.ref b1), .val (.int (1 : Int32)), .val (.int (1 : Int32)), .val (.int (1 : Int32)), .unset, .unset, .unset, .unset] [])) _
            refine XS.iconst X50.here hx rfl (hb hby at_163) ?_
            show Steps p.tables e below (T50.setTop (mkF m 164 #[.val (.int p0), .val (.int p1), .val (.int p2), .val (.int (1 : Int32)), .val (.int (0 : Int32)), .val (.int md), .val (.int er), .val (.ref b1), .val (.int (1 : Int32)), .val (.int (1 : Int32)), .val (.int (1 : Int32)), .unset, .unset, .unset, .unset] [(.int (1 : Int32))])) _
            refine XS.goto X50.here hx rfl (pc0 := 164) (pc' := 168) rfl (hb hby at_164) (by decide) (by decide) ?_
            show Steps p.tables e below (T50.setTop (mkF m 168 #[.val (.int p0), .val (.int p1), .val (.int p2), .val (.int (1 : Int32)), .val (.int (0 : Int32)), .val (.int md), .val (.int er), .val (.ref b1), .val (.int (1 : Int32)), .val (.int (1 : Int32)), .val (.int (1 : Int32)), .unset, .unset, .unset, .unset] [(.int (1 : Int32))])) _
            refine XS.istore X50.here hx rfl (hb hby at_168) rfl (l' := #[.val (.int p0), .val (.int p1), .val (.int p2), .val (.int (1 : Int32)), .val (.int (0 : Int32)), .val (.int md), .val (.int er), .val (.ref b1), .val (.int (1 : Int32)), .val (.int (1 : Int32)), .val (.int (1 : Int32)), .val (.int (1 : Int32)), .unset, .unset, .unset]) rfl ?_
            exact k
          have pre61 : ∀ t, Steps p.tables e below (T50.setTop (mkF m 194 #[.val (.int p0), .val (.int p1), .val (.int p2), .val (.int (1 : Int32)), .val (.int (0 : Int32)), .val (.int md), .val (.int er), .val (.ref b1), .val (.int (1 : Int32)), .val (.int (1 : Int32)), .val (.int (1 : Int32)), .val (.int (1 : Int32)), .val (.int (0 : Int32)), .unset, .unset] [])) t → Steps p.tables e below (s₁.setTop (entryFrame m #[(.int p0), (.int p1), (.int p2)] maxLocals)) t := by
            intro t k
            refine pre60 t ?_
            show Steps p.tables e below (T50.setTop (mkF m 170 #[.val (.int p0), .val (.int p1), .val (.int p2), .val (.int (1 : Int32)), .val (.int (0 : Int32)), .val (.int md), .val (.int er), .val (.ref b1), .val (.int (1 : Int32)), .val (.int (1 : Int32)), .val (.int (1 : Int32)), .val (.int (1 : Int32)), .unset, .unset, .unset] [])) _
            refine XS.iload X50.here hx rfl (hb hby at_170) rfl ?_
            show Steps p.tables e below (T50.setTop (mkF m 172 #[.val (.int p0), .val (.int p1), .val (.int p2), .val (.int (1 : Int32)), .val (.int (0 : Int32)), .val (.int md), .val (.int er), .val (.ref b1), .val (.int (1 : Int32)), .val (.int (1 : Int32)), .val (.int (1 : Int32)), .val (.int (1 : Int32)), .unset, .unset, .unset] [(.int (1 : Int32))])) _
            refine XS.ifNo X50.here hx rfl (hb hby at_172) rfl ((if0 _ _).trans (feq (by decide : ¬ ((1 : Int32) = (0 : Int32)))).1) ?_
            show Steps p.tables e below (T50.setTop (mkF m 175 #[.val (.int p0), .val (.int p1), .val (.int p2), .val (.int (1 : Int32)), .val (.int (0 : Int32)), .val (.int md), .val (.int er), .val (.ref b1), .val (.int (1 : Int32)), .val (.int (1 : Int32)), .val (.int (1 : Int32)), .val (.int (1 : Int32)), .unset, .unset, .unset] [])) _
            refine XS.iload X50.here hx rfl (hb hby at_175) rfl ?_
            show Steps p.tables e below (T50.setTop (mkF m 177 #[.val (.int p0), .val (.int p1), .val (.int p2), .val (.int (1 : Int32)), .val (.int (0 : Int32)), .val (.int md), .val (.int er), .val (.ref b1), .val (.int (1 : Int32)), .val (.int (1 : Int32)), .val (.int (1 : Int32)), .val (.int (1 : Int32)), .unset, .unset, .unset] [(.int (1 : Int32))])) _
            refine XS.ifNo X50.here hx rfl (hb hby at_177) rfl ((if0 _ _).trans (feq (by decide : ¬ ((1 : Int32) = (0 : Int32)))).1) ?_
            show Steps p.tables e below (T50.setTop (mkF m 180 #[.val (.int p0), .val (.int p1), .val (.int p2), .val (.int (1 : Int32)), .val (.int (0 : Int32)), .val (.int md), .val (.int er), .val (.ref b1), .val (.int (1 : Int32)), .val (.int (1 : Int32)), .val (.int (1 : Int32)), .val (.int (1 : Int32)), .unset, .unset, .unset] [])) _
            refine XS.iload X50.here hx rfl (hb hby at_180) rfl ?_
            show Steps p.tables e below (T50.setTop (mkF m 182 #[.val (.int p0), .val (.int p1), .val (.int p2), .val (.int (1 : Int32)), .val (.int (0 : Int32)), .val (.int md), .val (.int er), .val (.ref b1), .val (.int (1 : Int32)), .val (.int (1 : Int32)), .val (.int (1 : Int32)), .val (.int (1 : Int32)), .unset, .unset, .unset] [(.int er)])) _
            refine XS.bipush X50.here hx rfl (hb hby at_182) ?_
            show Steps p.tables e below (T50.setTop (mkF m 184 #[.val (.int p0), .val (.int p1), .val (.int p2), .val (.int (1 : Int32)), .val (.int (0 : Int32)), .val (.int md), .val (.int er), .val (.ref b1), .val (.int (1 : Int32)), .val (.int (1 : Int32)), .val (.int (1 : Int32)), .val (.int (1 : Int32)), .unset, .unset, .unset] [(.int (70 : Int32)), (.int er)])) _
            refine XS.icmpYes X50.here hx rfl (pc0 := 184) (pc' := 191) rfl (hb hby at_184) rfl (teq h70).1 (by decide) (by decide) ?_
            show Steps p.tables e below (T50.setTop (mkF m 191 #[.val (.int p0), .val (.int p1), .val (.int p2), .val (.int (1 : Int32)), .val (.int (0 : Int32)), .val (.int md), .val (.int er), .val (.ref b1), .val (.int (1 : Int32)), .val (.int (1 : Int32)), .val (.int (1 : Int32)), .val (.int (1 : Int32)), .unset, .unset, .unset] [])) _
            refine XS.iconst X50.here hx rfl (hb hby at_191) ?_
            show Steps p.tables e below (T50.setTop (mkF m 192 #[.val (.int p0), .val (.int p1), .val (.int p2), .val (.int (1 : Int32)), .val (.int (0 : Int32)), .val (.int md), .val (.int er), .val (.ref b1), .val (.int (1 : Int32)), .val (.int (1 : Int32)), .val (.int (1 : Int32)), .val (.int (1 : Int32)), .unset, .unset, .unset] [(.int (0 : Int32))])) _
            refine XS.istore X50.here hx rfl (hb hby at_192) rfl (l' := #[.val (.int p0), .val (.int p1), .val (.int p2), .val (.int (1 : Int32)), .val (.int (0 : Int32)), .val (.int md), .val (.int er), .val (.ref b1), .val (.int (1 : Int32)), .val (.int (1 : Int32)), .val (.int (1 : Int32)), .val (.int (1 : Int32)), .val (.int (0 : Int32)), .unset, .unset]) rfl ?_
            exact k
          have pre62 : ∀ t, Steps p.tables e below (T50.setTop (mkF m 207 #[.val (.int p0), .val (.int p1), .val (.int p2), .val (.int (1 : Int32)), .val (.int (0 : Int32)), .val (.int md), .val (.int er), .val (.ref b1), .val (.int (1 : Int32)), .val (.int (1 : Int32)), .val (.int (1 : Int32)), .val (.int (1 : Int32)), .val (.int (0 : Int32)), .val (.int (0 : Int32)), .unset] [])) t → Steps p.tables e below (s₁.setTop (entryFrame m #[(.int p0), (.int p1), (.int p2)] maxLocals)) t := by
            intro t k
            refine pre61 t ?_
            show Steps p.tables e below (T50.setTop (mkF m 194 #[.val (.int p0), .val (.int p1), .val (.int p2), .val (.int (1 : Int32)), .val (.int (0 : Int32)), .val (.int md), .val (.int er), .val (.ref b1), .val (.int (1 : Int32)), .val (.int (1 : Int32)), .val (.int (1 : Int32)), .val (.int (1 : Int32)), .val (.int (0 : Int32)), .unset, .unset] [])) _
            refine XS.iload X50.here hx rfl (hb hby at_194) rfl ?_
            show Steps p.tables e below (T50.setTop (mkF m 196 #[.val (.int p0), .val (.int p1), .val (.int p2), .val (.int (1 : Int32)), .val (.int (0 : Int32)), .val (.int md), .val (.int er), .val (.ref b1), .val (.int (1 : Int32)), .val (.int (1 : Int32)), .val (.int (1 : Int32)), .val (.int (1 : Int32)), .val (.int (0 : Int32)), .unset, .unset] [(.int (1 : Int32))])) _
            refine XS.ifNo X50.here hx rfl (hb hby at_196) rfl ((if0 _ _).trans (feq (by decide : ¬ ((1 : Int32) = (0 : Int32)))).1) ?_
            show Steps p.tables e below (T50.setTop (mkF m 199 #[.val (.int p0), .val (.int p1), .val (.int p2), .val (.int (1 : Int32)), .val (.int (0 : Int32)), .val (.int md), .val (.int er), .val (.ref b1), .val (.int (1 : Int32)), .val (.int (1 : Int32)), .val (.int (1 : Int32)), .val (.int (1 : Int32)), .val (.int (0 : Int32)), .unset, .unset] [])) _
            refine XS.iconst X50.here hx rfl (hb hby at_199) ?_
            show Steps p.tables e below (T50.setTop (mkF m 200 #[.val (.int p0), .val (.int p1), .val (.int p2), .val (.int (1 : Int32)), .val (.int (0 : Int32)), .val (.int md), .val (.int er), .val (.ref b1), .val (.int (1 : Int32)), .val (.int (1 : Int32)), .val (.int (1 : Int32)), .val (.int (1 : Int32)), .val (.int (0 : Int32)), .unset, .unset] [(.int (0 : Int32))])) _
            refine XS.goto X50.here hx rfl (pc0 := 200) (pc' := 205) rfl (hb hby at_200) (by decide) (by decide) ?_
            show Steps p.tables e below (T50.setTop (mkF m 205 #[.val (.int p0), .val (.int p1), .val (.int p2), .val (.int (1 : Int32)), .val (.int (0 : Int32)), .val (.int md), .val (.int er), .val (.ref b1), .val (.int (1 : Int32)), .val (.int (1 : Int32)), .val (.int (1 : Int32)), .val (.int (1 : Int32)), .val (.int (0 : Int32)), .unset, .unset] [(.int (0 : Int32))])) _
            refine XS.istore X50.here hx rfl (hb hby at_205) rfl (l' := #[.val (.int p0), .val (.int p1), .val (.int p2), .val (.int (1 : Int32)), .val (.int (0 : Int32)), .val (.int md), .val (.int er), .val (.ref b1), .val (.int (1 : Int32)), .val (.int (1 : Int32)), .val (.int (1 : Int32)), .val (.int (1 : Int32)), .val (.int (0 : Int32)), .val (.int (0 : Int32)), .unset]) rfl ?_
            exact k
          obtain ⟨cq52, kq52, q52a, q52b, q52c⟩ := isOf hZ rfl E50q
          obtain ⟨_, _, ⟨T52, L52, k52, n52⟩, -, X52, ⟨Lc52, hQ52, l52, y52, z52⟩, st52⟩ := X50.virtualBack hx (y := (⟨"com/example/tideline/tideline/session/FetcherSession", "next", "()Lcom/example/tideline/tideline/session/FetcherSession$Request;"⟩ : MethodName)) (z := (⟨"com/example/tideline/tideline/session/FetcherSession", "next", "()Lcom/example/tideline/tideline/session/FetcherSession$Request;"⟩ : MethodName)) hown (mvT hZ (hw _ (List.mem_of_getElem? (i := 52) rfl))) (mvT hZ (hw _ (List.mem_of_getElem? (i := 53) rfl))) (notFace_of_selects (args := #[]) (mvT hZ (hw _ (List.mem_of_getElem? (i := 55) rfl)))) (mvT hZ (hw _ (List.mem_of_getElem? (i := 55) rfl))) (mvT hZ (hw _ (List.mem_of_getElem? (i := 54) rfl))) (by decide) (backOf (W := 0) (rm7 l Z a0 hw [] b1 (0 : Int32) (0 : Int32) l2_5 f2_5 (.ref xb3) (.ref rq5) T50.heap n0 Zs51 F0_50q F1_50q F2_50q F3_50q F4_50q F5_50q E50q g_b1) hZ (hw _ (List.mem_of_getElem? (i := 56) rfl)) (hw _ (List.mem_of_getElem? (i := 2) rfl)) (by decide) (by decide)) q52a q52c (g := (mkF m 209 #[.val (.int p0), .val (.int p1), .val (.int p2), .val (.int (1 : Int32)), .val (.int (0 : Int32)), .val (.int md), .val (.int er), .val (.ref b1), .val (.int (1 : Int32)), .val (.int (1 : Int32)), .val (.int (1 : Int32)), .val (.int (1 : Int32)), .val (.int (0 : Int32)), .val (.int (0 : Int32)), .unset] [(.ref b1)])) rfl (by rw [hml]; rfl) (Steps.refl _) (argsL := []) (rest := []) (lenOf pd_7 rfl) rfl (by show 2 * 0 + _ ≤ _; exact Nat.le_of_eq rfl) (hb hby at_209) (fun _ _ => ⟨rfl, rfl, (by decide : 14 + 7 ≤ _), (by decide : 94 + 46 ≤ _)⟩)
          dsimp only [Pt.U, Pt.locs, Pt.cells, Pt.slots] at X52 l52 y52 z52 st52 hQ52
          subst l52 y52 z52
          obtain ⟨rq52, l2_52, f2_52, x3_52, rfl, N52q, K52q, E52q, Fid_52q, Fepoch_52q, Fheld_52q, Fpending_52q, Flisting_52q, Fforgetting_52q, Pl52q, Pf52q, Er52q, ge52q, RsessionId_52q, Repoch_52q, Rlisted_52q, Rforgotten_52q, hx52q⟩ := hQ52
          have N52 := Fr.app N50 N52q
          have hlt52 : b1 < T50.heap.size := E50q.lt
          have E_b1_52 := E50q.keep K52q
          have P_l2_5_52 := P_l2_5_50.keep K52q (allS hlt5 all0)
          have P_f2_5_52 := P_f2_5_50.keep K52q (allS hlt5 all0)
          have Zs53 := Nat.le_trans Zs51 K52q.1
          have ne_rq52 : rq52 ≠ b1 := fun q => Nat.lt_irrefl _ (Nat.lt_of_lt_of_le (q ▸ hlt52) ge52q)
          have pre63 : ∀ t, Steps p.tables e below (T52.setTop (mkF m 214 #[.val (.int p0), .val (.int p1), .val (.int p2), .val (.int (1 : Int32)), .val (.int (0 : Int32)), .val (.int md), .val (.int er), .val (.ref b1), .val (.int (1 : Int32)), .val (.int (1 : Int32)), .val (.int (1 : Int32)), .val (.int (1 : Int32)), .val (.int (0 : Int32)), .val (.int (0 : Int32)), .val (.ref rq52)] [])) t → Steps p.tables e below (s₁.setTop (entryFrame m #[(.int p0), (.int p1), (.int p2)] maxLocals)) t := by
            intro t k
            refine pre62 t ?_
            show Steps p.tables e below (T50.setTop (mkF m 207 #[.val (.int p0), .val (.int p1), .val (.int p2), .val (.int (1 : Int32)), .val (.int (0 : Int32)), .val (.int md), .val (.int er), .val (.ref b1), .val (.int (1 : Int32)), .val (.int (1 : Int32)), .val (.int (1 : Int32)), .val (.int (1 : Int32)), .val (.int (0 : Int32)), .val (.int (0 : Int32)), .unset] [])) _
            refine XS.aload X50.here hx rfl (hb hby at_207) rfl rfl ?_
            show Steps p.tables e below (T50.setTop (mkF m 209 #[.val (.int p0), .val (.int p1), .val (.int p2), .val (.int (1 : Int32)), .val (.int (0 : Int32)), .val (.int md), .val (.int er), .val (.ref b1), .val (.int (1 : Int32)), .val (.int (1 : Int32)), .val (.int (1 : Int32)), .val (.int (1 : Int32)), .val (.int (0 : Int32)), .val (.int (0 : Int32)), .unset] [(.ref b1)])) _
            refine st52.trans ?_
            show Steps p.tables e below (T52.setTop (mkF m 212 #[.val (.int p0), .val (.int p1), .val (.int p2), .val (.int (1 : Int32)), .val (.int (0 : Int32)), .val (.int md), .val (.int er), .val (.ref b1), .val (.int (1 : Int32)), .val (.int (1 : Int32)), .val (.int (1 : Int32)), .val (.int (1 : Int32)), .val (.int (0 : Int32)), .val (.int (0 : Int32)), .unset] [(.ref rq52)])) _
            refine XS.astore X52.here hx rfl (hb hby at_212) rfl rfl (l' := #[.val (.int p0), .val (.int p1), .val (.int p2), .val (.int (1 : Int32)), .val (.int (0 : Int32)), .val (.int md), .val (.int er), .val (.ref b1), .val (.int (1 : Int32)), .val (.int (1 : Int32)), .val (.int (1 : Int32)), .val (.int (1 : Int32)), .val (.int (0 : Int32)), .val (.int (0 : Int32)), .val (.ref rq52)]) rfl ?_
            exact k
          have pre64 : ∀ t, Steps p.tables e below (T52.setTop (mkF m 221 #[.val (.int p0), .val (.int p1), .val (.int p2), .val (.int (1 : Int32)), .val (.int (0 : Int32)), .val (.int md), .val (.int er), .val (.ref b1), .val (.int (1 : Int32)), .val (.int (1 : Int32)), .val (.int (1 : Int32)), .val (.int (1 : Int32)), .val (.int (0 : Int32)), .val (.int (0 : Int32)), .val (.ref rq52)] [])) t → Steps p.tables e below (s₁.setTop (entryFrame m #[(.int p0), (.int p1), (.int p2)] maxLocals)) t := by
            intro t k
            refine pre63 t ?_
            show Steps p.tables e below (T52.setTop (mkF m 214 #[.val (.int p0), .val (.int p1), .val (.int p2), .val (.int (1 : Int32)), .val (.int (0 : Int32)), .val (.int md), .val (.int er), .val (.ref b1), .val (.int (1 : Int32)), .val (.int (1 : Int32)), .val (.int (1 : Int32)), .val (.int (1 : Int32)), .val (.int (0 : Int32)), .val (.int (0 : Int32)), .val (.ref rq52)] [])) _
            refine XS.iload X52.here hx rfl (hb hby at_214) rfl ?_
            show Steps p.tables e below (T52.setTop (mkF m 216 #[.val (.int p0), .val (.int p1), .val (.int p2), .val (.int (1 : Int32)), .val (.int (0 : Int32)), .val (.int md), .val (.int er), .val (.ref b1), .val (.int (1 : Int32)), .val (.int (1 : Int32)), .val (.int (1 : Int32)), .val (.int (1 : Int32)), .val (.int (0 : Int32)), .val (.int (0 : Int32)), .val (.ref rq52)] [(.int (1 : Int32))])) _
            refine XS.iload X52.here hx rfl (hb hby at_216) rfl ?_
            show Steps p.tables e below (T52.setTop (mkF m 218 #[.val (.int p0), .val (.int p1), .val (.int p2), .val (.int (1 : Int32)), .val (.int (0 : Int32)), .val (.int md), .val (.int er), .val (.ref b1), .val (.int (1 : Int32)), .val (.int (1 : Int32)), .val (.int (1 : Int32)), .val (.int (1 : Int32)), .val (.int (0 : Int32)), .val (.int (0 : Int32)), .val (.ref rq52)] [(.int (1 : Int32)), (.int (1 : Int32))])) _
            refine XS.icmpNo X52.here hx rfl (hb hby at_218) rfl (teq (rfl : (1 : Int32) = (1 : Int32))).2 ?_
            exact k
          obtain ⟨cq54, kq54, q54a, q54b, q54c⟩ := isOf hZ rfl E52q
          obtain ⟨_, _, ⟨T54, L54, k54, n54⟩, -, X54, ⟨Lc54, hQ54, l54, y54, z54⟩, st54⟩ := X52.virtualBack hx (y := (⟨"com/example/tideline/tideline/session/FetcherSession", "incremental", "()Z"⟩ : MethodName)) (z := (⟨"com/example/tideline/tideline/session/FetcherSession", "incremental", "()Z"⟩ : MethodName)) hown (mvT hZ (hw _ (List.mem_of_getElem? (i := 86) rfl))) (mvT hZ (hw _ (List.mem_of_getElem? (i := 87) rfl))) (notFace_of_selects (args := #[]) (mvT hZ (hw _ (List.mem_of_getElem? (i := 89) rfl)))) (mvT hZ (hw _ (List.mem_of_getElem? (i := 89) rfl))) (mvT hZ (hw _ (List.mem_of_getElem? (i := 88) rfl))) (by decide) (backOf (W := 0) (rm11z l Z a0 hw [] b1 (0 : Int32) T52.heap n0 Zs53 Fepoch_52q rfl) hZ (hw _ (List.mem_of_getElem? (i := 90) rfl)) (hw _ (List.mem_of_getElem? (i := 2) rfl)) (by decide) (by decide)) q54a q54c (g := (mkF m 223 #[.val (.int p0), .val (.int p1), .val (.int p2), .val (.int (1 : Int32)), .val (.int (0 : Int32)), .val (.int md), .val (.int er), .val (.ref b1), .val (.int (1 : Int32)), .val (.int (1 : Int32)), .val (.int (1 : Int32)), .val (.int (1 : Int32)), .val (.int (0 : Int32)), .val (.int (0 : Int32)), .val (.ref rq52)] [(.ref b1)])) rfl (by rw [hml]; rfl) (Steps.refl _) (argsL := []) (rest := []) (lenOf pd_10 rfl) rfl (by show 2 * 0 + _ ≤ _; exact Nat.le_of_eq rfl) (hb hby at_223) (fun _ _ => ⟨rfl, rfl, (by decide : 21 + 0 ≤ _), (by decide : 140 + 0 ≤ _)⟩)
          dsimp only [Pt.U, Pt.locs, Pt.cells, Pt.slots] at X54 l54 y54 z54 st54 hQ54
          subst l54 y54 z54
          obtain ⟨rfl, N54q, e54q⟩ := hQ54
          have N54 := Fr.app N52 N54q
          have pre65 : ∀ t, Steps p.tables e below (T54.setTop (mkF m 228 #[.val (.int p0), .val (.int p1), .val (.int p2), .val (.int (1 : Int32)), .val (.int (0 : Int32)), .val (.int md), .val (.int er), .val (.ref b1), .val (.int (1 : Int32)), .val (.int (1 : Int32)), .val (.int (1 : Int32)), .val (.int (1 : Int32)), .val (.int (0 : Int32)), .val (.int (0 : Int32)), .val (.ref rq52)] [(.int (0 : Int32)), (.int (0 : Int32))])) t → Steps p.tables e below (s₁.setTop (entryFrame m #[(.int p0), (.int p1), (.int p2)] maxLocals)) t := by
            intro t k
            refine pre64 t ?_
            show Steps p.tables e below (T52.setTop (mkF m 221 #[.val (.int p0), .val (.int p1), .val (.int p2), .val (.int (1 : Int32)), .val (.int (0 : Int32)), .val (.int md), .val (.int er), .val (.ref b1), .val (.int (1 : Int32)), .val (.int (1 : Int32)), .val (.int (1 : Int32)), .val (.int (1 : Int32)), .val (.int (0 : Int32)), .val (.int (0 : Int32)), .val (.ref rq52)] [])) _
            refine XS.aload X52.here hx rfl (hb hby at_221) rfl rfl ?_
            show Steps p.tables e below (T52.setTop (mkF m 223 #[.val (.int p0), .val (.int p1), .val (.int p2), .val (.int (1 : Int32)), .val (.int (0 : Int32)), .val (.int md), .val (.int er), .val (.ref b1), .val (.int (1 : Int32)), .val (.int (1 : Int32)), .val (.int (1 : Int32)), .val (.int (1 : Int32)), .val (.int (0 : Int32)), .val (.int (0 : Int32)), .val (.ref rq52)] [(.ref b1)])) _
            refine st54.trans ?_
            show Steps p.tables e below (T54.setTop (mkF m 226 #[.val (.int p0), .val (.int p1), .val (.int p2), .val (.int (1 : Int32)), .val (.int (0 : Int32)), .val (.int md), .val (.int er), .val (.ref b1), .val (.int (1 : Int32)), .val (.int (1 : Int32)), .val (.int (1 : Int32)), .val (.int (1 : Int32)), .val (.int (0 : Int32)), .val (.int (0 : Int32)), .val (.ref rq52)] [(.int (0 : Int32))])) _
            refine XS.iload X54.here hx rfl (hb hby at_226) rfl ?_
            exact k
          have pre66 : ∀ t, Steps p.tables e below (T54.setTop (mkF m 236 #[.val (.int p0), .val (.int p1), .val (.int p2), .val (.int (1 : Int32)), .val (.int (0 : Int32)), .val (.int md), .val (.int er), .val (.ref b1), .val (.int (1 : Int32)), .val (.int (1 : Int32)), .val (.int (1 : Int32)), .val (.int (1 : Int32)), .val (.int (0 : Int32)), .val (.int (0 : Int32)), .val (.ref rq52)] [(.int (0 : Int32)), (.int (0 : Int32))])) t → Steps p.tables e below (s₁.setTop (entryFrame m #[(.int p0), (.int p1), (.int p2)] maxLocals)) t := by
            intro t k
            refine pre65 t ?_
            show Steps p.tables e below (T54.setTop (mkF m 228 #[.val (.int p0), .val (.int p1), .val (.int p2), .val (.int (1 : Int32)), .val (.int (0 : Int32)), .val (.int md), .val (.int er), .val (.ref b1), .val (.int (1 : Int32)), .val (.int (1 : Int32)), .val (.int (1 : Int32)), .val (.int (1 : Int32)), .val (.int (0 : Int32)), .val (.int (0 : Int32)), .val (.ref rq52)] [(.int (0 : Int32)), (.int (0 : Int32))])) _
            refine XS.ifYes X54.here hx rfl (pc0 := 228) (pc' := 235) rfl (hb hby at_228) rfl ((if0 _ _).trans (teq (rfl : (0 : Int32) = (0 : Int32))).1) (by decide) (by decide) ?_
            show Steps p.tables e below (T54.setTop (mkF m 235 #[.val (.int p0), .val (.int p1), .val (.int p2), .val (.int (1 : Int32)), .val (.int (0 : Int32)), .val (.int md), .val (.int er), .val (.ref b1), .val (.int (1 : Int32)), .val (.int (1 : Int32)), .val (.int (1 : Int32)), .val (.int (1 : Int32)), .val (.int (0 : Int32)), .val (.int (0 : Int32)), .val (.ref rq52)] [(.int (0 : Int32))])) _
            refine XS.iconst X54.here hx rfl (hb hby at_235) ?_
            exact k
          obtain ⟨cq55, kq55, q55a, q55b, q55c⟩ := isOf hZ e54q Er52q
          obtain ⟨_, _, ⟨T55, L55, k55, n55⟩, -, X55, ⟨Lc55, hQ55, l55, y55, z55⟩, st55⟩ := X54.virtualBack hx (y := (⟨"com/example/tideline/tideline/session/FetcherSession$Request", "sessionId", "()I"⟩ : MethodName)) (z := (⟨"com/example/tideline/tideline/session/FetcherSession$Request", "sessionId", "()I"⟩ : MethodName)) hown (mvT hZ (hw _ (List.mem_of_getElem? (i := 91) rfl))) (mvT hZ (hw _ (List.mem_of_getElem? (i := 92) rfl))) (notFace_of_selects (args := #[]) (mvT hZ (hw _ (List.mem_of_getElem? (i := 94) rfl)))) (mvT hZ (hw _ (List.mem_of_getElem? (i := 94) rfl))) (mvT hZ (hw _ (List.mem_of_getElem? (i := 93) rfl))) (by decide) (backOf (W := 0) (rm12 l Z a0 hw [] rq52 (0 : Int32) T52.heap n0 Zs53 RsessionId_52q) hZ (hw _ (List.mem_of_getElem? (i := 95) rfl)) (hw _ (List.mem_of_getElem? (i := 59) rfl)) (by decide) (by decide)) q55a q55c (g := (mkF m 241 #[.val (.int p0), .val (.int p1), .val (.int p2), .val (.int (1 : Int32)), .val (.int (0 : Int32)), .val (.int md), .val (.int er), .val (.ref b1), .val (.int (1 : Int32)), .val (.int (1 : Int32)), .val (.int (1 : Int32)), .val (.int (1 : Int32)), .val (.int (0 : Int32)), .val (.int (0 : Int32)), .val (.ref rq52)] [(.ref rq52)])) rfl (by rw [hml]; rfl) (Steps.refl _) (argsL := []) (rest := []) (lenOf pd_11 rfl) rfl (by show 2 * 0 + _ ≤ _; exact Nat.le_of_eq rfl) (hb hby at_241) (fun _ _ => ⟨rfl, e54q, (by decide : 21 + 0 ≤ _), (by decide : 140 + 0 ≤ _)⟩)
          dsimp only [Pt.U, Pt.locs, Pt.cells, Pt.slots] at X55 l55 y55 z55 st55 hQ55
          subst l55 y55 z55
          obtain ⟨rfl, N55q, e55q⟩ := hQ55
          have N55 := Fr.app N54 N55q
          obtain ⟨cq56, kq56, q56a, q56b, q56c⟩ := isOf hZ e55q Er52q
          obtain ⟨_, _, ⟨T56, L56, k56, n56⟩, -, X56, ⟨Lc56, hQ56, l56, y56, z56⟩, st56⟩ := X55.virtualBack hx (y := (⟨"com/example/tideline/tideline/session/FetcherSession$Request", "epoch", "()I"⟩ : MethodName)) (z := (⟨"com/example/tideline/tideline/session/FetcherSession$Request", "epoch", "()I"⟩ : MethodName)) hown (mvT hZ (hw _ (List.mem_of_getElem? (i := 96) rfl))) (mvT hZ (hw _ (List.mem_of_getElem? (i := 97) rfl))) (notFace_of_selects (args := #[]) (mvT hZ (hw _ (List.mem_of_getElem? (i := 99) rfl)))) (mvT hZ (hw _ (List.mem_of_getElem? (i := 99) rfl))) (mvT hZ (hw _ (List.mem_of_getElem? (i := 98) rfl))) (by decide) (backOf (W := 0) (rm13 l Z a0 hw [] rq52 (0 : Int32) T52.heap n0 Zs53 Repoch_52q) hZ (hw _ (List.mem_of_getElem? (i := 100) rfl)) (hw _ (List.mem_of_getElem? (i := 59) rfl)) (by decide) (by decide)) q56a q56c (g := (mkF m 251 #[.val (.int p0), .val (.int p1), .val (.int p2), .val (.int (1 : Int32)), .val (.int (0 : Int32)), .val (.int md), .val (.int er), .val (.ref b1), .val (.int (1 : Int32)), .val (.int (1 : Int32)), .val (.int (1 : Int32)), .val (.int (1 : Int32)), .val (.int (0 : Int32)), .val (.int (0 : Int32)), .val (.ref rq52)] [(.ref rq52)])) rfl (by rw [hml]; rfl) (Steps.refl _) (argsL := []) (rest := []) (lenOf pd_11 rfl) rfl (by show 2 * 0 + _ ≤ _; exact Nat.le_of_eq rfl) (hb hby at_251) (fun _ _ => ⟨rfl, e55q, (by decide : 21 + 0 ≤ _), (by decide : 140 + 0 ≤ _)⟩)
          dsimp only [Pt.U, Pt.locs, Pt.cells, Pt.slots] at X56 l56 y56 z56 st56 hQ56
          subst l56 y56 z56
          obtain ⟨rfl, N56q, e56q⟩ := hQ56
          have N56 := Fr.app N55 N56q
          obtain ⟨fs, hr, hrun, hended, hW, hsame⟩ := X56.leave (v := some (.int (1 : Int32))) (fun h => by rw [Bd.returns] at h; cases h)
          refine ⟨_, _, pre66 _ ?_, hrun, hended, _, _, rfl, ?_, ⟨_, rfl⟩, hW, hsame.mono (by decide) (by decide)⟩
          · show Steps p.tables e below (T54.setTop (mkF m 236 #[.val (.int p0), .val (.int p1), .val (.int p2), .val (.int (1 : Int32)), .val (.int (0 : Int32)), .val (.int md), .val (.int er), .val (.ref b1), .val (.int (1 : Int32)), .val (.int (1 : Int32)), .val (.int (1 : Int32)), .val (.int (1 : Int32)), .val (.int (0 : Int32)), .val (.int (0 : Int32)), .val (.ref rq52)] [(.int (0 : Int32)), (.int (0 : Int32))])) _
            refine XS.icmpNo X54.here hx rfl (hb hby at_236) rfl (teq (rfl : (0 : Int32) = (0 : Int32))).2 ?_
            show Steps p.tables e below (T54.setTop (mkF m 239 #[.val (.int p0), .val (.int p1), .val (.int p2), .val (.int (1 : Int32)), .val (.int (0 : Int32)), .val (.int md), .val (.int er), .val (.ref b1), .val (.int (1 : Int32)), .val (.int (1 : Int32)), .val (.int (1 : Int32)), .val (.int (1 : Int32)), .val (.int (0 : Int32)), .val (.int (0 : Int32)), .val (.ref rq52)] [])) _
            refine XS.aload X54.here hx rfl (hb hby at_239) rfl rfl ?_
            show Steps p.tables e below (T54.setTop (mkF m 241 #[.val (.int p0), .val (.int p1), .val (.int p2), .val (.int (1 : Int32)), .val (.int (0 : Int32)), .val (.int md), .val (.int er), .val (.ref b1), .val (.int (1 : Int32)), .val (.int (1 : Int32)), .val (.int (1 : Int32)), .val (.int (1 : Int32)), .val (.int (0 : Int32)), .val (.int (0 : Int32)), .val (.ref rq52)] [(.ref rq52)])) _
            refine st55.trans ?_
            show Steps p.tables e below (T55.setTop (mkF m 244 #[.val (.int p0), .val (.int p1), .val (.int p2), .val (.int (1 : Int32)), .val (.int (0 : Int32)), .val (.int md), .val (.int er), .val (.ref b1), .val (.int (1 : Int32)), .val (.int (1 : Int32)), .val (.int (1 : Int32)), .val (.int (1 : Int32)), .val (.int (0 : Int32)), .val (.int (0 : Int32)), .val (.ref rq52)] [(.int (0 : Int32))])) _
            refine XS.iload X55.here hx rfl (hb hby at_244) rfl ?_
            show Steps p.tables e below (T55.setTop (mkF m 246 #[.val (.int p0), .val (.int p1), .val (.int p2), .val (.int (1 : Int32)), .val (.int (0 : Int32)), .val (.int md), .val (.int er), .val (.ref b1), .val (.int (1 : Int32)), .val (.int (1 : Int32)), .val (.int (1 : Int32)), .val (.int (1 : Int32)), .val (.int (0 : Int32)), .val (.int (0 : Int32)), .val (.ref rq52)] [(.int (0 : Int32)), (.int (0 : Int32))])) _
            refine XS.icmpNo X55.here hx rfl (hb hby at_246) rfl (teq (rfl : (0 : Int32) = (0 : Int32))).2 ?_
            show Steps p.tables e below (T55.setTop (mkF m 249 #[.val (.int p0), .val (.int p1), .val (.int p2), .val (.int (1 : Int32)), .val (.int (0 : Int32)), .val (.int md), .val (.int er), .val (.ref b1), .val (.int (1 : Int32)), .val (.int (1 : Int32)), .val (.int (1 : Int32)), .val (.int (1 : Int32)), .val (.int (0 : Int32)), .val (.int (0 : Int32)), .val (.ref rq52)] [])) _
            refine XS.aload X55.here hx rfl (hb hby at_249) rfl rfl ?_
            show Steps p.tables e below (T55.setTop (mkF m 251 #[.val (.int p0), .val (.int p1), .val (.int p2), .val (.int (1 : Int32)), .val (.int (0 : Int32)), .val (.int md), .val (.int er), .val (.ref b1), .val (.int (1 : Int32)), .val (.int (1 : Int32)), .val (.int (1 : Int32)), .val (.int (1 : Int32)), .val (.int (0 : Int32)), .val (.int (0 : Int32)), .val (.ref rq52)] [(.ref rq52)])) _
            refine st56.trans ?_
            show Steps p.tables e below (T56.setTop (mkF m 254 #[.val (.int p0), .val (.int p1), .val (.int p2), .val (.int (1 : Int32)), .val (.int (0 : Int32)), .val (.int md), .val (.int er), .val (.ref b1), .val (.int (1 : Int32)), .val (.int (1 : Int32)), .val (.int (1 : Int32)), .val (.int (1 : Int32)), .val (.int (0 : Int32)), .val (.int (0 : Int32)), .val (.ref rq52)] [(.int (0 : Int32))])) _
            refine XS.iload X56.here hx rfl (hb hby at_254) rfl ?_
            show Steps p.tables e below (T56.setTop (mkF m 256 #[.val (.int p0), .val (.int p1), .val (.int p2), .val (.int (1 : Int32)), .val (.int (0 : Int32)), .val (.int md), .val (.int er), .val (.ref b1), .val (.int (1 : Int32)), .val (.int (1 : Int32)), .val (.int (1 : Int32)), .val (.int (1 : Int32)), .val (.int (0 : Int32)), .val (.int (0 : Int32)), .val (.ref rq52)] [(.int (0 : Int32)), (.int (0 : Int32))])) _
            refine XS.icmpNo X56.here hx rfl (hb hby at_256) rfl (teq (rfl : (0 : Int32) = (0 : Int32))).2 ?_
            show Steps p.tables e below (T56.setTop (mkF m 259 #[.val (.int p0), .val (.int p1), .val (.int p2), .val (.int (1 : Int32)), .val (.int (0 : Int32)), .val (.int md), .val (.int er), .val (.ref b1), .val (.int (1 : Int32)), .val (.int (1 : Int32)), .val (.int (1 : Int32)), .val (.int (1 : Int32)), .val (.int (0 : Int32)), .val (.int (0 : Int32)), .val (.ref rq52)] [])) _
            refine XS.iconst X56.here hx rfl (hb hby at_259) ?_
            show Steps p.tables e below (T56.setTop (mkF m 260 #[.val (.int p0), .val (.int p1), .val (.int p2), .val (.int (1 : Int32)), .val (.int (0 : Int32)), .val (.int md), .val (.int er), .val (.ref b1), .val (.int (1 : Int32)), .val (.int (1 : Int32)), .val (.int (1 : Int32)), .val (.int (1 : Int32)), .val (.int (0 : Int32)), .val (.int (0 : Int32)), .val (.ref rq52)] [(.int (1 : Int32))])) _
            refine XS.goto X56.here hx rfl (pc0 := 260) (pc' := 264) rfl (hb hby at_260) (by decide) (by decide) ?_
            show Steps p.tables e below (T56.setTop (mkF m 264 #[.val (.int p0), .val (.int p1), .val (.int p2), .val (.int (1 : Int32)), .val (.int (0 : Int32)), .val (.int md), .val (.int er), .val (.ref b1), .val (.int (1 : Int32)), .val (.int (1 : Int32)), .val (.int (1 : Int32)), .val (.int (1 : Int32)), .val (.int (0 : Int32)), .val (.int (0 : Int32)), .val (.ref rq52)] [(.int (1 : Int32))])) _
            exact retN X56 hx (t := .boolean) Bd.returns (by simp) (hb hby at_264) hr
          · show Q0 Z p0 p1 p2 h0 n0 _ T56.heap _
            rw [e56q]
            exact ⟨rfl, N56⟩
        · skip
          by_cases h71 : er = (71 : Int32)
          · skip
            obtain ⟨cq57, kq57, q57a, q57b, q57c⟩ := isOf hZ rfl E23q
            obtain ⟨_, _, ⟨T57, L57, k57, n57⟩, -, X57, ⟨Lc57, hQ57, l57, y57, z57⟩, st57⟩ := X23.virtualBack hx (y := (⟨"com/example/tideline/tideline/session/FetcherSession", "startOver", "(S)Z"⟩ : MethodName)) (z := (⟨"com/example/tideline/tideline/session/FetcherSession", "startOver", "(S)Z"⟩ : MethodName)) hown (mvT hZ (hw _ (List.mem_of_getElem? (i := 81) rfl))) (mvT hZ (hw _ (List.mem_of_getElem? (i := 82) rfl))) (notFace_of_selects (args := #[]) (mvT hZ (hw _ (List.mem_of_getElem? (i := 84) rfl)))) (mvT hZ (hw _ (List.mem_of_getElem? (i := 84) rfl))) (mvT hZ (hw _ (List.mem_of_getElem? (i := 83) rfl))) (by decide) (backOf (W := 0) (rm10b l Z a0 hw [] b1 er p0 (1 : Int32) l2_5 f2_5 (.ref xb3) (.ref rq5) T23.heap n0 Zs24 F0_23q F1_23q F2_23q F3_23q F4_23q F5_23q E23q g_b1 (by decide) h70 h71) hZ (hw _ (List.mem_of_getElem? (i := 85) rfl)) (hw _ (List.mem_of_getElem? (i := 2) rfl)) (by decide) (by decide)) q57a q57c (g := (mkF m 139 #[.val (.int p0), .val (.int p1), .val (.int p2), .val (.int (1 : Int32)), .val (.int (0 : Int32)), .val (.int md), .val (.int er), .val (.ref b1), .val (.int (1 : Int32)), .val (.int (1 : Int32)), .unset, .unset, .unset, .unset, .unset] [(.int er), (.ref b1)])) rfl (by rw [hml]; rfl) (Steps.refl _) (argsL := [(.int er)]) (rest := []) (lenOf pd_9 rfl) rfl (by show 2 * 0 + _ ≤ _; exact Nat.le_of_eq rfl) (hb hby at_139) (fun _ _ => ⟨rfl, rfl, (by decide : 14 + 0 ≤ _), (by decide : 94 + 0 ≤ _)⟩)
            dsimp only [Pt.U, Pt.locs, Pt.cells, Pt.slots] at X57 l57 y57 z57 st57 hQ57
            subst l57 y57 z57
            obtain ⟨rfl, N57q, K57q, E57q, F0_57q, F1_57q, F2_57q, F3_57q, F4_57q, F5_57q⟩ := hQ57
            have N57 := Fr.app N23 N57q
            have E_b1_57 := E23q.keep K57q
            have E_rq5_57 := E_rq5_23.keep K57q
            have F_rq5_sessionId_57 := F_rq5_sessionId_23.keep K57q (ninS ne_rq5 nin0)
            have F_rq5_epoch_57 := F_rq5_epoch_23.keep K57q (ninS ne_rq5 nin0)
            have F_rq5_listed_57 := F_rq5_listed_23.keep K57q (ninS ne_rq5 nin0)
            have F_rq5_forgotten_57 := F_rq5_forgotten_23.keep K57q (ninS ne_rq5 nin0)
            have P_l2_5_57 := P_l2_5_23.keep K57q (allS hlt5 all0)
            have P_f2_5_57 := P_f2_5_23.keep K57q (allS hlt5 all0)
            have Zs58 := Nat.le_trans Zs24 K57q.1
            have pre67 : ∀ t, Steps p.tables e below (T57.setTop (mkF m 144 #[.val (.int p0), .val (.int p1), .val (.int p2), .val (.int (1 : Int32)), .val (.int (0 : Int32)), .val (.int md), .val (.int er), .val (.ref b1), .val (.int (1 : Int32)), .val (.int (1 : Int32)), .val (.int (1 : Int32)), .unset, .unset, .unset, .unset] [])) t → Steps p.tables e below (s₁.setTop (entryFrame m #[(.int p0), (.int p1), (.int p2)] maxLocals)) t := by
              intro t k
              refine pre58 t ?_
              show Steps p.tables e below (T23.setTop (mkF m 135 #[.val (.int p0), .val (.int p1), .val (.int p2), .val (.int (1 : Int32)), .val (.int (0 : Int32)), .val (.int md), .val (.int er), .val (.ref b1), .val (.int (1 : Int32)), .val (.int (1 : Int32)), .unset, .unset, .unset, .unset, .unset] [])) _
              refine XS.aload X23.here hx rfl (hb hby at_135) rfl rfl ?_
              show Steps p.tables e below (T23.setTop (mkF m 137 #[.val (.int p0), .val (.int p1), .val (.int p2), .val (.int (1 : Int32)), .val (.int (0 : Int32)), .val (.int md), .val (.int er), .val (.ref b1), .val (.int (1 : Int32)), .val (.int (1 : Int32)), .unset, .unset, .unset, .unset, .unset] [(.ref b1)])) _
              refine XS.iload X23.here hx rfl (hb hby at_137) rfl ?_
              show Steps p.tables e below (T23.setTop (mkF m 139 #[.val (.int p0), .val (.int p1), .val (.int p2), .val (.int (1 : Int32)), .val (.int (0 : Int32)), .val (.int md), .val (.int er), .val (.ref b1), .val (.int (1 : Int32)), .val (.int (1 : Int32)), .unset, .unset, .unset, .unset, .unset] [(.int er), (.ref b1)])) _
              refine st57.trans ?_
              show Steps p.tables e below (T57.setTop (mkF m 142 #[.val (.int p0), .val (.int p1), .val (.int p2), .val (.int (1 : Int32)), .val (.int (0 : Int32)), .val (.int md), .val (.int er), .val (.ref b1), .val (.int (1 : Int32)), .val (.int (1 : Int32)), .unset, .unset, .unset, .unset, .unset] [(.int (1 : Int32))])) _
              refine XS.istore X57.here hx rfl (hb hby at_142) rfl (l' := #[.val (.int p0), .val (.int p1), .val (.int p2), .val (.int (1 : Int32)), .val (.int (0 : Int32)), .val (.int md), .val (.int er), .val (.ref b1), .val (.int (1 : Int32)), .val (.int (1 : Int32)), .val (.int (1 : Int32)), .unset, .unset, .unset, .unset]) rfl ?_
              exact k
            have pre68 : ∀ t, Steps p.tables e below (T57.setTop (mkF m 170 #[.val (.int p0), .val (.int p1), .val (.int p2), .val (.int (1 : Int32)), .val (.int (0 : Int32)), .val (.int md), .val (.int er), .val (.ref b1), .val (.int (1 : Int32)), .val (.int (1 : Int32)), .val (.int (1 : Int32)), .val (.int (1 : Int32)), .unset, .unset, .unset] [])) t → Steps p.tables e below (s₁.setTop (entryFrame m #[(.int p0), (.int p1), (.int p2)] maxLocals)) t := by
              intro t k
              refine pre67 t ?_
              show Steps p.tables e below (T57.setTop (mkF m 144 #[.val (.int p0), .val (.int p1), .val (.int p2), .val (.int (1 : Int32)), .val (.int (0 : Int32)), .val (.int md), .val (.int er), .val (.ref b1), .val (.int (1 : Int32)), .val (.int (1 : Int32)), .val (.int (1 : Int32)), .unset, .unset, .unset, .unset] [])) _
              refine XS.iload X57.here hx rfl (hb hby at_144) rfl ?_
              show Steps p.tables e below (T57.setTop (mkF m 146 #[.val (.int p0), .val (.int p1), .val (.int p2), .val (.int (1 : Int32)), .val (.int (0 : Int32)), .val (.int md), .val (.int er), .val (.ref b1), .val (.int (1 : Int32)), .val (.int (1 : Int32)), .val (.int (1 : Int32)), .unset, .unset, .unset, .unset] [(.int (1 : Int32))])) _
              refine XS.ifNo X57.here hx rfl (hb hby at_146) rfl ((if0 _ _).trans (feq (by decide : ¬ ((1 : Int32) = (0 : Int32)))).1) ?_
              show Steps p.tables e below (T57.setTop (mkF m 149 #[.val (.int p0), .val (.int p1), .val (.int p2), .val (.int (1 : Int32)), .val (.int (0 : Int32)), .val (.int md), .val (.int er), .val (.ref b1), .val (.int (1 : Int32)), .val (.int (1 : Int32)), .val (.int (1 : Int32)), .unset, .unset, .unset, .unset] [])) _
              refine XS.iload X57.here hx rfl (hb hby at_149) rfl ?_
              show Steps p.tables e below (T57.setTop (mkF m 151 #[.val (.int p0), .val (.int p1), .val (.int p2), .val (.int (1 : Int32)), .val (.int (0 : Int32)), .val (.int md), .val (.int er), .val (.ref b1), .val (.int (1 : Int32)), .val (.int (1 : Int32)), .val (.int (1 : Int32)), .unset, .unset, .unset, .unset] [(.int er)])) _
              refine XS.bipush X57.here hx rfl (hb hby at_151) ?_
              show Steps p.tables e below (T57.setTop (mkF m 153 #[.val (.int p0), .val (.int p1), .val (.int p2), .val (.int (1 : Int32)), .val (.int (0 : Int32)), .val (.int md), .val (.int er), .val (.ref b1), .val (.int (1 : Int32)), .val (.int (1 : Int32)), .val (.int (1 : Int32)), .unset, .unset, .unset, .unset] [(.int (70 : Int32)), (.int er)])) _
              refine XS.icmpNo X57.here hx rfl (hb hby at_153) rfl (feq h70).1 ?_
              show Steps p.tables e below (T57.setTop (mkF m 156 #[.val (.int p0), .val (.int p1), .val (.int p2), .val (.int (1 : Int32)), .val (.int (0 : Int32)), .val (.int md), .val (.int er), .val (.ref b1), .val (.int (1 : Int32)), .val (.int (1 : Int32)), .val (.int (1 : Int32)), .unset, .unset, .unset, .unset] [])) _
              refine XS.iload X57.here hx rfl (hb hby at_156) rfl ?_
              show Steps p.tables e below (T57.setTop (mkF m 158 #[.val (.int p0), .val (.int p1), .val (.int p2), .val (.int (1 : Int32)), .val (.int (0 : Int32)), .val (.int md), .val (.int er), .val (.ref b1), .val (.int (1 : Int32)), .val (.int (1 : Int32)), .val (.int (1 : Int32)), .unset, .unset, .unset, .unset] [(.int er)])) _
              refine XS.bipush X57.here hx rfl (hb hby at_158) ?_
              show Steps p.tables e below (T57.setTop (mkF m 160 #[.val (.int p0), .val (.int p1), .val (.int p2), .val (.int (1 : Int32)), .val (.int (0 : Int32)), .val (.int md), .val (.int er), .val (.ref b1), .val (.int (1 : Int32)), .val (.int (1 : Int32)), .val (.int (1 : Int32)), .unset, .unset, .unset, .unset] [(.int (71 : Int32)), (.int er)])) _
              refine XS.icmpNo X57.here hx rfl (hb hby at_160) rfl (teq h71).2 ?_
              show Steps p.tables e below (T57.setTop (mkF m 163 #[.val (.int p0), .val (.int p1), .val (.int p2), .val (.int (1 : Int32)), .val (.int (0 : Int32)), .val (.int md), .val (.int er), .val (.ref b1), .val (.int (1 : Int32)), .val (.int (1 : Int32)), .val (.int (1 : Int32)), .unset, .unset, .unset, .unset] [])) _
              refine XS.iconst X57.here hx rfl (hb hby at_163) ?_
              show Steps p.tables e below (T57.setTop (mkF m 164 #[.val (.int p0), .val (.int p1), .val (.int p2), .val (.int (1 : Int32)), .val (.int (0 : Int32)), .val (.int md), .val (.int er), .val (.ref b1), .val (.int (1 : Int32)), .val (.int (1 : Int32)), .val (.int (1 : Int32)), .unset, .unset, .unset, .unset] [(.int (1 : Int32))])) _
              refine XS.goto X57.here hx rfl (pc0 := 164) (pc' := 168) rfl (hb hby at_164) (by decide) (by decide) ?_
              show Steps p.tables e below (T57.setTop (mkF m 168 #[.val (.int p0), .val (.int p1), .val (.int p2), .val (.int (1 : Int32)), .val (.int (0 : Int32)), .val (.int md), .val (.int er), .val (.ref b1), .val (.int (1 : Int32)), .val (.int (1 : Int32)), .val (.int (1 : Int32)), .unset, .unset, .unset, .unset] [(.int (1 : Int32))])) _
              refine XS.istore X57.here hx rfl (hb hby at_168) rfl (l' := #[.val (.int p0), .val (.int p1), .val (.int p2), .val (.int (1 : Int32)), .val (.int (0 : Int32)), .val (.int md), .val (.int er), .val (.ref b1), .val (.int (1 : Int32)), .val (.int (1 : Int32)), .val (.int (1 : Int32)), .val (.int (1 : Int32)), .unset, .unset, .unset]) rfl ?_
              exact k
            have pre69 : ∀ t, Steps p.tables e below (T57.setTop (mkF m 194 #[.val (.int p0), .val (.int p1), .val (.int p2), .val (.int (1 : Int32)), .val (.int (0 : Int32)), .val (.int md), .val (.int er), .val (.ref b1), .val (.int (1 : Int32)), .val (.int (1 : Int32)), .val (.int (1 : Int32)), .val (.int (1 : Int32)), .val (.int p0), .unset, .unset] [])) t → Steps p.tables e below (s₁.setTop (entryFrame m #[(.int p0), (.int p1), (.int p2)] maxLocals)) t := by
              intro t k
              refine pre68 t ?_
              show Steps p.tables e below (T57.setTop (mkF m 170 #[.val (.int p0), .val (.int p1), .val (.int p2), .val (.int (1 : Int32)), .val (.int (0 : Int32)), .val (.int md), .val (.int er), .val (.ref b1), .val (.int (1 : Int32)), .val (.int (1 : Int32)), .val (.int (1 : Int32)), .val (.int (1 : Int32)), .unset, .unset, .unset] [])) _
              refine XS.iload X57.here hx rfl (hb hby at_170) rfl ?_
              show Steps p.tables e below (T57.setTop (mkF m 172 #[.val (.int p0), .val (.int p1), .val (.int p2), .val (.int (1 : Int32)), .val (.int (0 : Int32)), .val (.int md), .val (.int er), .val (.ref b1), .val (.int (1 : Int32)), .val (.int (1 : Int32)), .val (.int (1 : Int32)), .val (.int (1 : Int32)), .unset, .unset, .unset] [(.int (1 : Int32))])) _
              refine XS.ifNo X57.here hx rfl (hb hby at_172) rfl ((if0 _ _).trans (feq (by decide : ¬ ((1 : Int32) = (0 : Int32)))).1) ?_
              show Steps p.tables e below (T57.setTop (mkF m 175 #[.val (.int p0), .val (.int p1), .val (.int p2), .val (.int (1 : Int32)), .val (.int (0 : Int32)), .val (.int md), .val (.int er), .val (.ref b1), .val (.int (1 : Int32)), .val (.int (1 : Int32)), .val (.int (1 : Int32)), .val (.int (1 : Int32)), .unset, .unset, .unset] [])) _
              refine XS.iload X57.here hx rfl (hb hby at_175) rfl ?_
              show Steps p.tables e below (T57.setTop (mkF m 177 #[.val (.int p0), .val (.int p1), .val (.int p2), .val (.int (1 : Int32)), .val (.int (0 : Int32)), .val (.int md), .val (.int er), .val (.ref b1), .val (.int (1 : Int32)), .val (.int (1 : Int32)), .val (.int (1 : Int32)), .val (.int (1 : Int32)), .unset, .unset, .unset] [(.int (1 : Int32))])) _
              refine XS.ifNo X57.here hx rfl (hb hby at_177) rfl ((if0 _ _).trans (feq (by decide : ¬ ((1 : Int32) = (0 : Int32)))).1) ?_
              show Steps p.tables e below (T57.setTop (mkF m 180 #[.val (.int p0), .val (.int p1), .val (.int p2), .val (.int (1 : Int32)), .val (.int (0 : Int32)), .val (.int md), .val (.int er), .val (.ref b1), .val (.int (1 : Int32)), .val (.int (1 : Int32)), .val (.int (1 : Int32)), .val (.int (1 : Int32)), .unset, .unset, .unset] [])) _
              refine XS.iload X57.here hx rfl (hb hby at_180) rfl ?_
              show Steps p.tables e below (T57.setTop (mkF m 182 #[.val (.int p0), .val (.int p1), .val (.int p2), .val (.int (1 : Int32)), .val (.int (0 : Int32)), .val (.int md), .val (.int er), .val (.ref b1), .val (.int (1 : Int32)), .val (.int (1 : Int32)), .val (.int (1 : Int32)), .val (.int (1 : Int32)), .unset, .unset, .unset] [(.int er)])) _
              refine XS.bipush X57.here hx rfl (hb hby at_182) ?_
              show Steps p.tables e below (T57.setTop (mkF m 184 #[.val (.int p0), .val (.int p1), .val (.int p2), .val (.int (1 : Int32)), .val (.int (0 : Int32)), .val (.int md), .val (.int er), .val (.ref b1), .val (.int (1 : Int32)), .val (.int (1 : Int32)), .val (.int (1 : Int32)), .val (.int (1 : Int32)), .unset, .unset, .unset] [(.int (70 : Int32)), (.int er)])) _
              refine XS.icmpNo X57.here hx rfl (hb hby at_184) rfl (feq h70).1 ?_
              show Steps p.tables e below (T57.setTop (mkF m 187 #[.val (.int p0), .val (.int p1), .val (.int p2), .val (.int (1 : Int32)), .val (.int (0 : Int32)), .val (.int md), .val (.int er), .val (.ref b1), .val (.int (1 : Int32)), .val (.int (1 : Int32)), .val (.int (1 : Int32)), .val (.int (1 : Int32)), .unset, .unset, .unset] [])) _
              refine XS.iloadN X57.here hx rfl (hb hby at_187) rfl ?_
              show Steps p.tables e below (T57.setTop (mkF m 188 #[.val (.int p0), .val (.int p1), .val (.int p2), .val (.int (1 : Int32)), .val (.int (0 : Int32)), .val (.int md), .val (.int er), .val (.ref b1), .val (.int (1 : Int32)), .val (.int (1 : Int32)), .val (.int (1 : Int32)), .val (.int (1 : Int32)), .unset, .unset, .unset] [(.int p0)])) _
              refine XS.goto X57.here hx rfl (pc0 := 188) (pc' := 192) rfl (hb hby at_188) (by decide) (by decide) ?_
              show Steps p.tables e below (T57.setTop (mkF m 192 #[.val (.int p0), .val (.int p1), .val (.int p2), .val (.int (1 : Int32)), .val (.int (0 : Int32)), .val (.int md), .val (.int er), .val (.ref b1), .val (.int (1 : Int32)), .val (.int (1 : Int32)), .val (.int (1 : Int32)), .val (.int (1 : Int32)), .unset, .unset, .unset] [(.int p0)])) _
              refine XS.istore X57.here hx rfl (hb hby at_192) rfl (l' := #[.val (.int p0), .val (.int p1), .val (.int p2), .val (.int (1 : Int32)), .val (.int (0 : Int32)), .val (.int md), .val (.int er), .val (.ref b1), .val (.int (1 : Int32)), .val (.int (1 : Int32)), .val (.int (1 : Int32)), .val (.int (1 : Int32)), .val (.int p0), .unset, .unset]) rfl ?_
              exact k
            have pre70 : ∀ t, Steps p.tables e below (T57.setTop (mkF m 207 #[.val (.int p0), .val (.int p1), .val (.int p2), .val (.int (1 : Int32)), .val (.int (0 : Int32)), .val (.int md), .val (.int er), .val (.ref b1), .val (.int (1 : Int32)), .val (.int (1 : Int32)), .val (.int (1 : Int32)), .val (.int (1 : Int32)), .val (.int p0), .val (.int (0 : Int32)), .unset] [])) t → Steps p.tables e below (s₁.setTop (entryFrame m #[(.int p0), (.int p1), (.int p2)] maxLocals)) t := by
              intro t k
              refine pre69 t ?_
              show Steps p.tables e below (T57.setTop (mkF m 194 #[.val (.int p0), .val (.int p1), .val (.int p2), .val (.int (1 : Int32)), .val (.int (0 : Int32)), .val (.int md), .val (.int er), .val (.ref b1), .val (.int (1 : Int32)), .val (.int (1 : Int32)), .val (.int (1 : Int32)), .val (.int (1 : Int32)), .val (.int p0), .unset, .unset] [])) _
              refine XS.iload X57.here hx rfl (hb hby at_194) rfl ?_
              show Steps p.tables e below (T57.setTop (mkF m 196 #[.val (.int p0), .val (.int p1), .val (.int p2), .val (.int (1 : Int32)), .val (.int (0 : Int32)), .val (.int md), .val (.int er), .val (.ref b1), .val (.int (1 : Int32)), .val (.int (1 : Int32)), .val (.int (1 : Int32)), .val (.int (1 : Int32)), .val (.int p0), .unset, .unset] [(.int (1 : Int32))])) _
              refine XS.ifNo X57.here hx rfl (hb hby at_196) rfl ((if0 _ _).trans (feq (by decide : ¬ ((1 : Int32) = (0 : Int32)))).1) ?_
              show Steps p.tables e below (T57.setTop (mkF m 199 #[.val (.int p0), .val (.int p1), .val (.int p2), .val (.int (1 : Int32)), .val (.int (0 : Int32)), .val (.int md), .val (.int er), .val (.ref b1), .val (.int (1 : Int32)), .val (.int (1 : Int32)), .val (.int (1 : Int32)), .val (.int (1 : Int32)), .val (.int p0), .unset, .unset] [])) _
              refine XS.iconst X57.here hx rfl (hb hby at_199) ?_
              show Steps p.tables e below (T57.setTop (mkF m 200 #[.val (.int p0), .val (.int p1), .val (.int p2), .val (.int (1 : Int32)), .val (.int (0 : Int32)), .val (.int md), .val (.int er), .val (.ref b1), .val (.int (1 : Int32)), .val (.int (1 : Int32)), .val (.int (1 : Int32)), .val (.int (1 : Int32)), .val (.int p0), .unset, .unset] [(.int (0 : Int32))])) _
              refine XS.goto X57.here hx rfl (pc0 := 200) (pc' := 205) rfl (hb hby at_200) (by decide) (by decide) ?_
              show Steps p.tables e below (T57.setTop (mkF m 205 #[.val (.int p0), .val (.int p1), .val (.int p2), .val (.int (1 : Int32)), .val (.int (0 : Int32)), .val (.int md), .val (.int er), .val (.ref b1), .val (.int (1 : Int32)), .val (.int (1 : Int32)), .val (.int (1 : Int32)), .val (.int (1 : Int32)), .val (.int p0), .unset, .unset] [(.int (0 : Int32))])) _
              refine XS.istore X57.here hx rfl (hb hby at_205) rfl (l' := #[.val (.int p0), .val (.int p1), .val (.int p2), .val (.int (1 : Int32)), .val (.int (0 : Int32)), .val (.int md), .val (.int er), .val (.ref b1), .val (.int (1 : Int32)), .val (.int (1 : Int32)), .val (.int (1 : Int32)), .val (.int (1 : Int32)), .val (.int p0), .val (.int (0 : Int32)), .unset]) rfl ?_
              exact k
            obtain ⟨cq59, kq59, q59a, q59b, q59c⟩ := isOf hZ rfl E57q
            obtain ⟨_, _, ⟨T59, L59, k59, n59⟩, -, X59, ⟨Lc59, hQ59, l59, y59, z59⟩, st59⟩ := X57.virtualBack hx (y := (⟨"com/example/tideline/tideline/session/FetcherSession", "next", "()Lcom/example/tideline/tideline/session/FetcherSession$Request;"⟩ : MethodName)) (z := (⟨"com/example/tideline/tideline/session/FetcherSession", "next", "()Lcom/example/tideline/tideline/session/FetcherSession$Request;"⟩ : MethodName)) hown (mvT hZ (hw _ (List.mem_of_getElem? (i := 52) rfl))) (mvT hZ (hw _ (List.mem_of_getElem? (i := 53) rfl))) (notFace_of_selects (args := #[]) (mvT hZ (hw _ (List.mem_of_getElem? (i := 55) rfl)))) (mvT hZ (hw _ (List.mem_of_getElem? (i := 55) rfl))) (mvT hZ (hw _ (List.mem_of_getElem? (i := 54) rfl))) (by decide) (backOf (W := 0) (rm7 l Z a0 hw [] b1 p0 (0 : Int32) l2_5 f2_5 (.ref xb3) (.ref rq5) T57.heap n0 Zs58 F0_57q F1_57q F2_57q F3_57q F4_57q F5_57q E57q g_b1) hZ (hw _ (List.mem_of_getElem? (i := 56) rfl)) (hw _ (List.mem_of_getElem? (i := 2) rfl)) (by decide) (by decide)) q59a q59c (g := (mkF m 209 #[.val (.int p0), .val (.int p1), .val (.int p2), .val (.int (1 : Int32)), .val (.int (0 : Int32)), .val (.int md), .val (.int er), .val (.ref b1), .val (.int (1 : Int32)), .val (.int (1 : Int32)), .val (.int (1 : Int32)), .val (.int (1 : Int32)), .val (.int p0), .val (.int (0 : Int32)), .unset] [(.ref b1)])) rfl (by rw [hml]; rfl) (Steps.refl _) (argsL := []) (rest := []) (lenOf pd_7 rfl) rfl (by show 2 * 0 + _ ≤ _; exact Nat.le_of_eq rfl) (hb hby at_209) (fun _ _ => ⟨rfl, rfl, (by decide : 14 + 7 ≤ _), (by decide : 94 + 46 ≤ _)⟩)
            dsimp only [Pt.U, Pt.locs, Pt.cells, Pt.slots] at X59 l59 y59 z59 st59 hQ59
            subst l59 y59 z59
            obtain ⟨rq59, l2_59, f2_59, x3_59, rfl, N59q, K59q, E59q, Fid_59q, Fepoch_59q, Fheld_59q, Fpending_59q, Flisting_59q, Fforgetting_59q, Pl59q, Pf59q, Er59q, ge59q, RsessionId_59q, Repoch_59q, Rlisted_59q, Rforgotten_59q, hx59q⟩ := hQ59
            have N59 := Fr.app N57 N59q
            have hlt59 : b1 < T57.heap.size := E57q.lt
            have E_b1_59 := E57q.keep K59q
            have P_l2_5_59 := P_l2_5_57.keep K59q (allS hlt5 all0)
            have P_f2_5_59 := P_f2_5_57.keep K59q (allS hlt5 all0)
            have Zs60 := Nat.le_trans Zs58 K59q.1
            have ne_rq59 : rq59 ≠ b1 := fun q => Nat.lt_irrefl _ (Nat.lt_of_lt_of_le (q ▸ hlt59) ge59q)
            have pre71 : ∀ t, Steps p.tables e below (T59.setTop (mkF m 214 #[.val (.int p0), .val (.int p1), .val (.int p2), .val (.int (1 : Int32)), .val (.int (0 : Int32)), .val (.int md), .val (.int er), .val (.ref b1), .val (.int (1 : Int32)), .val (.int (1 : Int32)), .val (.int (1 : Int32)), .val (.int (1 : Int32)), .val (.int p0), .val (.int (0 : Int32)), .val (.ref rq59)] [])) t → Steps p.tables e below (s₁.setTop (entryFrame m #[(.int p0), (.int p1), (.int p2)] maxLocals)) t := by
              intro t k
              refine pre70 t ?_
              show Steps p.tables e below (T57.setTop (mkF m 207 #[.val (.int p0), .val (.int p1), .val (.int p2), .val (.int (1 : Int32)), .val (.int (0 : Int32)), .val (.int md), .val (.int er), .val (.ref b1), .val (.int (1 : Int32)), .val (.int (1 : Int32)), .val (.int (1 : Int32)), .val (.int (1 : Int32)), .val (.int p0), .val (.int (0 : Int32)), .unset] [])) _
              refine XS.aload X57.here hx rfl (hb hby at_207) rfl rfl ?_
              show Steps p.tables e below (T57.setTop (mkF m 209 #[.val (.int p0), .val (.int p1), .val (.int p2), .val (.int (1 : Int32)), .val (.int (0 : Int32)), .val (.int md), .val (.int er), .val (.ref b1), .val (.int (1 : Int32)), .val (.int (1 : Int32)), .val (.int (1 : Int32)), .val (.int (1 : Int32)), .val (.int p0), .val (.int (0 : Int32)), .unset] [(.ref b1)])) _
              refine st59.trans ?_
              show Steps p.tables e below (T59.setTop (mkF m 212 #[.val (.int p0), .val (.int p1), .val (.int p2), .val (.int (1 : Int32)), .val (.int (0 : Int32)), .val (.int md), .val (.int er), .val (.ref b1), .val (.int (1 : Int32)), .val (.int (1 : Int32)), .val (.int (1 : Int32)), .val (.int (1 : Int32)), .val (.int p0), .val (.int (0 : Int32)), .unset] [(.ref rq59)])) _
              refine XS.astore X59.here hx rfl (hb hby at_212) rfl rfl (l' := #[.val (.int p0), .val (.int p1), .val (.int p2), .val (.int (1 : Int32)), .val (.int (0 : Int32)), .val (.int md), .val (.int er), .val (.ref b1), .val (.int (1 : Int32)), .val (.int (1 : Int32)), .val (.int (1 : Int32)), .val (.int (1 : Int32)), .val (.int p0), .val (.int (0 : Int32)), .val (.ref rq59)]) rfl ?_
              exact k
            have pre72 : ∀ t, Steps p.tables e below (T59.setTop (mkF m 221 #[.val (.int p0), .val (.int p1), .val (.int p2), .val (.int (1 : Int32)), .val (.int (0 : Int32)), .val (.int md), .val (.int er), .val (.ref b1), .val (.int (1 : Int32)), .val (.int (1 : Int32)), .val (.int (1 : Int32)), .val (.int (1 : Int32)), .val (.int p0), .val (.int (0 : Int32)), .val (.ref rq59)] [])) t → Steps p.tables e below (s₁.setTop (entryFrame m #[(.int p0), (.int p1), (.int p2)] maxLocals)) t := by
              intro t k
              refine pre71 t ?_
              show Steps p.tables e below (T59.setTop (mkF m 214 #[.val (.int p0), .val (.int p1), .val (.int p2), .val (.int (1 : Int32)), .val (.int (0 : Int32)), .val (.int md), .val (.int er), .val (.ref b1), .val (.int (1 : Int32)), .val (.int (1 : Int32)), .val (.int (1 : Int32)), .val (.int (1 : Int32)), .val (.int p0), .val (.int (0 : Int32)), .val (.ref rq59)] [])) _
              refine XS.iload X59.here hx rfl (hb hby at_214) rfl ?_
              show Steps p.tables e below (T59.setTop (mkF m 216 #[.val (.int p0), .val (.int p1), .val (.int p2), .val (.int (1 : Int32)), .val (.int (0 : Int32)), .val (.int md), .val (.int er), .val (.ref b1), .val (.int (1 : Int32)), .val (.int (1 : Int32)), .val (.int (1 : Int32)), .val (.int (1 : Int32)), .val (.int p0), .val (.int (0 : Int32)), .val (.ref rq59)] [(.int (1 : Int32))])) _
              refine XS.iload X59.here hx rfl (hb hby at_216) rfl ?_
              show Steps p.tables e below (T59.setTop (mkF m 218 #[.val (.int p0), .val (.int p1), .val (.int p2), .val (.int (1 : Int32)), .val (.int (0 : Int32)), .val (.int md), .val (.int er), .val (.ref b1), .val (.int (1 : Int32)), .val (.int (1 : Int32)), .val (.int (1 : Int32)), .val (.int (1 : Int32)), .val (.int p0), .val (.int (0 : Int32)), .val (.ref rq59)] [(.int (1 : Int32)), (.int (1 : Int32))])) _
              refine XS.icmpNo X59.here hx rfl (hb hby at_218) rfl (teq (rfl : (1 : Int32) = (1 : Int32))).2 ?_
              exact k
            obtain ⟨cq61, kq61, q61a, q61b, q61c⟩ := isOf hZ rfl E59q
            obtain ⟨_, _, ⟨T61, L61, k61, n61⟩, -, X61, ⟨Lc61, hQ61, l61, y61, z61⟩, st61⟩ := X59.virtualBack hx (y := (⟨"com/example/tideline/tideline/session/FetcherSession", "incremental", "()Z"⟩ : MethodName)) (z := (⟨"com/example/tideline/tideline/session/FetcherSession", "incremental", "()Z"⟩ : MethodName)) hown (mvT hZ (hw _ (List.mem_of_getElem? (i := 86) rfl))) (mvT hZ (hw _ (List.mem_of_getElem? (i := 87) rfl))) (notFace_of_selects (args := #[]) (mvT hZ (hw _ (List.mem_of_getElem? (i := 89) rfl)))) (mvT hZ (hw _ (List.mem_of_getElem? (i := 89) rfl))) (mvT hZ (hw _ (List.mem_of_getElem? (i := 88) rfl))) (by decide) (backOf (W := 0) (rm11z l Z a0 hw [] b1 (0 : Int32) T59.heap n0 Zs60 Fepoch_59q rfl) hZ (hw _ (List.mem_of_getElem? (i := 90) rfl)) (hw _ (List.mem_of_getElem? (i := 2) rfl)) (by decide) (by decide)) q61a q61c (g := (mkF m 223 #[.val (.int p0), .val (.int p1), .val (.int p2), .val (.int (1 : Int32)), .val (.int (0 : Int32)), .val (.int md), .val (.int er), .val (.ref b1), .val (.int (1 : Int32)), .val (.int (1 : Int32)), .val (.int (1 : Int32)), .val (.int (1 : Int32)), .val (.int p0), .val (.int (0 : Int32)), .val (.ref rq59)] [(.ref b1)])) rfl (by rw [hml]; rfl) (Steps.refl _) (argsL := []) (rest := []) (lenOf pd_10 rfl) rfl (by show 2 * 0 + _ ≤ _; exact Nat.le_of_eq rfl) (hb hby at_223) (fun _ _ => ⟨rfl, rfl, (by decide : 21 + 0 ≤ _), (by decide : 140 + 0 ≤ _)⟩)
            dsimp only [Pt.U, Pt.locs, Pt.cells, Pt.slots] at X61 l61 y61 z61 st61 hQ61
            subst l61 y61 z61
            obtain ⟨rfl, N61q, e61q⟩ := hQ61
            have N61 := Fr.app N59 N61q
            have pre73 : ∀ t, Steps p.tables e below (T61.setTop (mkF m 228 #[.val (.int p0), .val (.int p1), .val (.int p2), .val (.int (1 : Int32)), .val (.int (0 : Int32)), .val (.int md), .val (.int er), .val (.ref b1), .val (.int (1 : Int32)), .val (.int (1 : Int32)), .val (.int (1 : Int32)), .val (.int (1 : Int32)), .val (.int p0), .val (.int (0 : Int32)), .val (.ref rq59)] [(.int (0 : Int32)), (.int (0 : Int32))])) t → Steps p.tables e below (s₁.setTop (entryFrame m #[(.int p0), (.int p1), (.int p2)] maxLocals)) t := by
              intro t k
              refine pre72 t ?_
              show Steps p.tables e below (T59.setTop (mkF m 221 #[.val (.int p0), .val (.int p1), .val (.int p2), .val (.int (1 : Int32)), .val (.int (0 : Int32)), .val (.int md), .val (.int er), .val (.ref b1), .val (.int (1 : Int32)), .val (.int (1 : Int32)), .val (.int (1 : Int32)), .val (.int (1 : Int32)), .val (.int p0), .val (.int (0 : Int32)), .val (.ref rq59)] [])) _
              refine XS.aload X59.here hx rfl (hb hby at_221) rfl rfl ?_
              show Steps p.tables e below (T59.setTop (mkF m 223 #[.val (.int p0), .val (.int p1), .val (.int p2), .val (.int (1 : Int32)), .val (.int (0 : Int32)), .val (.int md), .val (.int er), .val (.ref b1), .val (.int (1 : Int32)), .val (.int (1 : Int32)), .val (.int (1 : Int32)), .val (.int (1 : Int32)), .val (.int p0), .val (.int (0 : Int32)), .val (.ref rq59)] [(.ref b1)])) _
              refine st61.trans ?_
              show Steps p.tables e below (T61.setTop (mkF m 226 #[.val (.int p0), .val (.int p1), .val (.int p2), .val (.int (1 : Int32)), .val (.int (0 : Int32)), .val (.int md), .val (.int er), .val (.ref b1), .val (.int (1 : Int32)), .val (.int (1 : Int32)), .val (.int (1 : Int32)), .val (.int (1 : Int32)), .val (.int p0), .val (.int (0 : Int32)), .val (.ref rq59)] [(.int (0 : Int32))])) _
              refine XS.iload X61.here hx rfl (hb hby at_226) rfl ?_
              exact k
            have pre74 : ∀ t, Steps p.tables e below (T61.setTop (mkF m 236 #[.val (.int p0), .val (.int p1), .val (.int p2), .val (.int (1 : Int32)), .val (.int (0 : Int32)), .val (.int md), .val (.int er), .val (.ref b1), .val (.int (1 : Int32)), .val (.int (1 : Int32)), .val (.int (1 : Int32)), .val (.int (1 : Int32)), .val (.int p0), .val (.int (0 : Int32)), .val (.ref rq59)] [(.int (0 : Int32)), (.int (0 : Int32))])) t → Steps p.tables e below (s₁.setTop (entryFrame m #[(.int p0), (.int p1), (.int p2)] maxLocals)) t := by
              intro t k
              refine pre73 t ?_
              show Steps p.tables e below (T61.setTop (mkF m 228 #[.val (.int p0), .val (.int p1), .val (.int p2), .val (.int (1 : Int32)), .val (.int (0 : Int32)), .val (.int md), .val (.int er), .val (.ref b1), .val (.int (1 : Int32)), .val (.int (1 : Int32)), .val (.int (1 : Int32)), .val (.int (1 : Int32)), .val (.int p0), .val (.int (0 : Int32)), .val (.ref rq59)] [(.int (0 : Int32)), (.int (0 : Int32))])) _
              refine XS.ifYes X61.here hx rfl (pc0 := 228) (pc' := 235) rfl (hb hby at_228) rfl ((if0 _ _).trans (teq (rfl : (0 : Int32) = (0 : Int32))).1) (by decide) (by decide) ?_
              show Steps p.tables e below (T61.setTop (mkF m 235 #[.val (.int p0), .val (.int p1), .val (.int p2), .val (.int (1 : Int32)), .val (.int (0 : Int32)), .val (.int md), .val (.int er), .val (.ref b1), .val (.int (1 : Int32)), .val (.int (1 : Int32)), .val (.int (1 : Int32)), .val (.int (1 : Int32)), .val (.int p0), .val (.int (0 : Int32)), .val (.ref rq59)] [(.int (0 : Int32))])) _
              refine XS.iconst X61.here hx rfl (hb hby at_235) ?_
              exact k
            obtain ⟨cq62, kq62, q62a, q62b, q62c⟩ := isOf hZ e61q Er59q
            obtain ⟨_, _, ⟨T62, L62, k62, n62⟩, -, X62, ⟨Lc62, hQ62, l62, y62, z62⟩, st62⟩ := X61.virtualBack hx (y := (⟨"com/example/tideline/tideline/session/FetcherSession$Request", "sessionId", "()I"⟩ : MethodName)) (z := (⟨"com/example/tideline/tideline/session/FetcherSession$Request", "sessionId", "()I"⟩ : MethodName)) hown (mvT hZ (hw _ (List.mem_of_getElem? (i := 91) rfl))) (mvT hZ (hw _ (List.mem_of_getElem? (i := 92) rfl))) (notFace_of_selects (args := #[]) (mvT hZ (hw _ (List.mem_of_getElem? (i := 94) rfl)))) (mvT hZ (hw _ (List.mem_of_getElem? (i := 94) rfl))) (mvT hZ (hw _ (List.mem_of_getElem? (i := 93) rfl))) (by decide) (backOf (W := 0) (rm12 l Z a0 hw [] rq59 p0 T59.heap n0 Zs60 RsessionId_59q) hZ (hw _ (List.mem_of_getElem? (i := 95) rfl)) (hw _ (List.mem_of_getElem? (i := 59) rfl)) (by decide) (by decide)) q62a q62c (g := (mkF m 241 #[.val (.int p0), .val (.int p1), .val (.int p2), .val (.int (1 : Int32)), .val (.int (0 : Int32)), .val (.int md), .val (.int er), .val (.ref b1), .val (.int (1 : Int32)), .val (.int (1 : Int32)), .val (.int (1 : Int32)), .val (.int (1 : Int32)), .val (.int p0), .val (.int (0 : Int32)), .val (.ref rq59)] [(.ref rq59)])) rfl (by rw [hml]; rfl) (Steps.refl _) (argsL := []) (rest := []) (lenOf pd_11 rfl) rfl (by show 2 * 0 + _ ≤ _; exact Nat.le_of_eq rfl) (hb hby at_241) (fun _ _ => ⟨rfl, e61q, (by decide : 21 + 0 ≤ _), (by decide : 140 + 0 ≤ _)⟩)
            dsimp only [Pt.U, Pt.locs, Pt.cells, Pt.slots] at X62 l62 y62 z62 st62 hQ62
            subst l62 y62 z62
            obtain ⟨rfl, N62q, e62q⟩ := hQ62
            have N62 := Fr.app N61 N62q
            obtain ⟨cq63, kq63, q63a, q63b, q63c⟩ := isOf hZ e62q Er59q
            obtain ⟨_, _, ⟨T63, L63, k63, n63⟩, -, X63, ⟨Lc63, hQ63, l63, y63, z63⟩, st63⟩ := X62.virtualBack hx (y := (⟨"com/example/tideline/tideline/session/FetcherSession$Request", "epoch", "()I"⟩ : MethodName)) (z := (⟨"com/example/tideline/tideline/session/FetcherSession$Request", "epoch", "()I"⟩ : MethodName)) hown (mvT hZ (hw _ (List.mem_of_getElem? (i := 96) rfl))) (mvT hZ (hw _ (List.mem_of_getElem? (i := 97) rfl))) (notFace_of_selects (args := #[]) (mvT hZ (hw _ (List.mem_of_getElem? (i := 99) rfl)))) (mvT hZ (hw _ (List.mem_of_getElem? (i := 99) rfl))) (mvT hZ (hw _ (List.mem_of_getElem? (i := 98) rfl))) (by decide) (backOf (W := 0) (rm13 l Z a0 hw [] rq59 (0 : Int32) T59.heap n0 Zs60 Repoch_59q) hZ (hw _ (List.mem_of_getElem? (i := 100) rfl)) (hw _ (List.mem_of_getElem? (i := 59) rfl)) (by decide) (by decide)) q63a q63c (g := (mkF m 251 #[.val (.int p0), .val (.int p1), .val (.int p2), .val (.int (1 : Int32)), .val (.int (0 : Int32)), .val (.int md), .val (.int er), .val (.ref b1), .val (.int (1 : Int32)), .val (.int (1 : Int32)), .val (.int (1 : Int32)), .val (.int (1 : Int32)), .val (.int p0), .val (.int (0 : Int32)), .val (.ref rq59)] [(.ref rq59)])) rfl (by rw [hml]; rfl) (Steps.refl _) (argsL := []) (rest := []) (lenOf pd_11 rfl) rfl (by show 2 * 0 + _ ≤ _; exact Nat.le_of_eq rfl) (hb hby at_251) (fun _ _ => ⟨rfl, e62q, (by decide : 21 + 0 ≤ _), (by decide : 140 + 0 ≤ _)⟩)
            dsimp only [Pt.U, Pt.locs, Pt.cells, Pt.slots] at X63 l63 y63 z63 st63 hQ63
            subst l63 y63 z63
            obtain ⟨rfl, N63q, e63q⟩ := hQ63
            have N63 := Fr.app N62 N63q
            obtain ⟨fs, hr, hrun, hended, hW, hsame⟩ := X63.leave (v := some (.int (1 : Int32))) (fun h => by rw [Bd.returns] at h; cases h)
            refine ⟨_, _, pre74 _ ?_, hrun, hended, _, _, rfl, ?_, ⟨_, rfl⟩, hW, hsame.mono (by decide) (by decide)⟩
            · show Steps p.tables e below (T61.setTop (mkF m 236 #[.val (.int p0), .val (.int p1), .val (.int p2), .val (.int (1 : Int32)), .val (.int (0 : Int32)), .val (.int md), .val (.int er), .val (.ref b1), .val (.int (1 : Int32)), .val (.int (1 : Int32)), .val (.int (1 : Int32)), .val (.int (1 : Int32)), .val (.int p0), .val (.int (0 : Int32)), .val (.ref rq59)] [(.int (0 : Int32)), (.int (0 : Int32))])) _
              refine XS.icmpNo X61.here hx rfl (hb hby at_236) rfl (teq (rfl : (0 : Int32) = (0 : Int32))).2 ?_
              show Steps p.tables e below (T61.setTop (mkF m 239 #[.val (.int p0), .val (.int p1), .val (.int p2), .val (.int (1 : Int32)), .val (.int (0 : Int32)), .val (.int md), .val (.int er), .val (.ref b1), .val (.int (1 : Int32)), .val (.int (1 : Int32)), .val (.int (1 : Int32)), .val (.int (1 : Int32)), .val (.int p0), .val (.int (0 : Int32)), .val (.ref rq59)] [])) _
              refine XS.aload X61.here hx rfl (hb hby at_239) rfl rfl ?_
              show Steps p.tables e below (T61.setTop (mkF m 241 #[.val (.int p0), .val (.int p1), .val (.int p2), .val (.int (1 : Int32)), .val (.int (0 : Int32)), .val (.int md), .val (.int er), .val (.ref b1), .val (.int (1 : Int32)), .val (.int (1 : Int32)), .val (.int (1 : Int32)), .val (.int (1 : Int32)), .val (.int p0), .val (.int (0 : Int32)), .val (.ref rq59)] [(.ref rq59)])) _
              refine st62.trans ?_
              show Steps p.tables e below (T62.setTop (mkF m 244 #[.val (.int p0), .val (.int p1), .val (.int p2), .val (.int (1 : Int32)), .val (.int (0 : Int32)), .val (.int md), .val (.int er), .val (.ref b1), .val (.int (1 : Int32)), .val (.int (1 : Int32)), .val (.int (1 : Int32)), .val (.int (1 : Int32)), .val (.int p0), .val (.int (0 : Int32)), .val (.ref rq59)] [(.int p0)])) _
              refine XS.iload X62.here hx rfl (hb hby at_244) rfl ?_
              show Steps p.tables e below (T62.setTop (mkF m 246 #[.val (.int p0), .val (.int p1), .val (.int p2), .val (.int (1 : Int32)), .val (.int (0 : Int32)), .val (.int md), .val (.int er), .val (.ref b1), .val (.int (1 : Int32)), .val (.int (1 : Int32)), .val (.int (1 : Int32)), .val (.int (1 : Int32)), .val (.int p0), .val (.int (0 : Int32)), .val (.ref rq59)] [(.int p0), (.int p0)])) _
              refine XS.icmpNo X62.here hx rfl (hb hby at_246) rfl (teq (rfl : p0 = p0)).2 ?_
              show Steps p.tables e below (T62.setTop (mkF m 249 #[.val (.int p0), .val (.int p1), .val (.int p2), .val (.int (1 : Int32)), .val (.int (0 : Int32)), .val (.int md), .val (.int er), .val (.ref b1), .val (.int (1 : Int32)), .val (.int (1 : Int32)), .val (.int (1 : Int32)), .val (.int (1 : Int32)), .val (.int p0), .val (.int (0 : Int32)), .val (.ref rq59)] [])) _
              refine XS.aload X62.here hx rfl (hb hby at_249) rfl rfl ?_
              show Steps p.tables e below (T62.setTop (mkF m 251 #[.val (.int p0), .val (.int p1), .val (.int p2), .val (.int (1 : Int32)), .val (.int (0 : Int32)), .val (.int md), .val (.int er), .val (.ref b1), .val (.int (1 : Int32)), .val (.int (1 : Int32)), .val (.int (1 : Int32)), .val (.int (1 : Int32)), .val (.int p0), .val (.int (0 : Int32)), .val (.ref rq59)] [(.ref rq59)])) _
              refine st63.trans ?_
              show Steps p.tables e below (T63.setTop (mkF m 254 #[.val (.int p0), .val (.int p1), .val (.int p2), .val (.int (1 : Int32)), .val (.int (0 : Int32)), .val (.int md), .val (.int er), .val (.ref b1), .val (.int (1 : Int32)), .val (.int (1 : Int32)), .val (.int (1 : Int32)), .val (.int (1 : Int32)), .val (.int p0), .val (.int (0 : Int32)), .val (.ref rq59)] [(.int (0 : Int32))])) _
              refine XS.iload X63.here hx rfl (hb hby at_254) rfl ?_
              show Steps p.tables e below (T63.setTop (mkF m 256 #[.val (.int p0), .val (.int p1), .val (.int p2), .val (.int (1 : Int32)), .val (.int (0 : Int32)), .val (.int md), .val (.int er), .val (.ref b1), .val (.int (1 : Int32)), .val (.int (1 : Int32)), .val (.int (1 : Int32)), .val (.int (1 : Int32)), .val (.int p0), .val (.int (0 : Int32)), .val (.ref rq59)] [(.int (0 : Int32)), (.int (0 : Int32))])) _
              refine XS.icmpNo X63.here hx rfl (hb hby at_256) rfl (teq (rfl : (0 : Int32) = (0 : Int32))).2 ?_
              show Steps p.tables e below (T63.setTop (mkF m 259 #[.val (.int p0), .val (.int p1), .val (.int p2), .val (.int (1 : Int32)), .val (.int (0 : Int32)), .val (.int md), .val (.int er), .val (.ref b1), .val (.int (1 : Int32)), .val (.int (1 : Int32)), .val (.int (1 : Int32)), .val (.int (1 : Int32)), .val (.int p0), .val (.int (0 : Int32)), .val (.ref rq59)] [])) _
              refine XS.iconst X63.here hx rfl (hb hby at_259) ?_
              show Steps p.tables e below (T63.setTop (mkF m 260 #[.val (.int p0), .val (.int p1), .val (.int p2), .val (.int (1 : Int32)), .val (.int (0 : Int32)), .val (.int md), .val (.int er), .val (.ref b1), .val (.int (1 : Int32)), .val (.int (1 : Int32)), .val (.int (1 : Int32)), .val (.int (1 : Int32)), .val (.int p0), .val (.int (0 : Int32)), .val (.ref rq59)] [(.int (1 : Int32))])) _
              refine XS.goto X63.here hx rfl (pc0 := 260) (pc' := 264) rfl (hb hby at_260) (by decide) (by decide) ?_
              show Steps p.tables e below (T63.setTop (mkF m 264 #[.val (.int p0), .val (.int p1), .val (.int p2), .val (.int (1 : Int32)), .val (.int (0 : Int32)), .val (.int md), .val (.int er), .val (.ref b1), .val (.int (1 : Int32)), .val (.int (1 : Int32)), .val (.int (1 : Int32)), .val (.int (1 : Int32)), .val (.int p0), .val (.int (0 : Int32)), .val (.ref rq59)] [(.int (1 : Int32))])) _
              exact retN X63 hx (t := .boolean) Bd.returns (by simp) (hb hby at_264) hr
            · show Q0 Z p0 p1 p2 h0 n0 _ T63.heap _
              rw [e63q]
              exact ⟨rfl, N63⟩
          · skip
            obtain ⟨cq64, kq64, q64a, q64b, q64c⟩ := isOf hZ rfl E23q
            obtain ⟨_, _, ⟨T64, L64, k64, n64⟩, -, X64, ⟨Lc64, hQ64, l64, y64, z64⟩, st64⟩ := X23.virtualBack hx (y := (⟨"com/example/tideline/tideline/session/FetcherSession", "startOver", "(S)Z"⟩ : MethodName)) (z := (⟨"com/example/tideline/tideline/session/FetcherSession", "startOver", "(S)Z"⟩ : MethodName)) hown (mvT hZ (hw _ (List.mem_of_getElem? (i := 81) rfl))) (mvT hZ (hw _ (List.mem_of_getElem? (i := 82) rfl))) (notFace_of_selects (args := #[]) (mvT hZ (hw _ (List.mem_of_getElem? (i := 84) rfl)))) (mvT hZ (hw _ (List.mem_of_getElem? (i := 84) rfl))) (mvT hZ (hw _ (List.mem_of_getElem? (i := 83) rfl))) (by decide) (backOf (W := 0) (rm10c l Z a0 hw [] b1 er p0 (1 : Int32) l2_5 f2_5 (.ref xb3) (.ref rq5) T23.heap n0 Zs24 F0_23q F1_23q F2_23q F3_23q F4_23q F5_23q E23q g_b1 (by decide) h70 h71) hZ (hw _ (List.mem_of_getElem? (i := 85) rfl)) (hw _ (List.mem_of_getElem? (i := 2) rfl)) (by decide) (by decide)) q64a q64c (g := (mkF m 139 #[.val (.int p0), .val (.int p1), .val (.int p2), .val (.int (1 : Int32)), .val (.int (0 : Int32)), .val (.int md), .val (.int er), .val (.ref b1), .val (.int (1 : Int32)), .val (.int (1 : Int32)), .unset, .unset, .unset, .unset, .unset] [(.int er), (.ref b1)])) rfl (by rw [hml]; rfl) (Steps.refl _) (argsL := [(.int er)]) (rest := []) (lenOf pd_9 rfl) rfl (by show 2 * 0 + _ ≤ _; exact Nat.le_of_eq rfl) (hb hby at_139) (fun _ _ => ⟨rfl, rfl, (by decide : 14 + 0 ≤ _), (by decide : 94 + 0 ≤ _)⟩)
            dsimp only [Pt.U, Pt.locs, Pt.cells, Pt.slots] at X64 l64 y64 z64 st64 hQ64
            subst l64 y64 z64
            obtain ⟨rfl, N64q, K64q, E64q, F0_64q, F1_64q, F2_64q, F3_64q, F4_64q, F5_64q⟩ := hQ64
            have N64 := Fr.app N23 N64q
            have E_b1_64 := E23q.keep K64q
            have E_rq5_64 := E_rq5_23.keep K64q
            have F_rq5_sessionId_64 := F_rq5_sessionId_23.keep K64q (ninS ne_rq5 nin0)
            have F_rq5_epoch_64 := F_rq5_epoch_23.keep K64q (ninS ne_rq5 nin0)
            have F_rq5_listed_64 := F_rq5_listed_23.keep K64q (ninS ne_rq5 nin0)
            have F_rq5_forgotten_64 := F_rq5_forgotten_23.keep K64q (ninS ne_rq5 nin0)
            have P_l2_5_64 := P_l2_5_23.keep K64q (allS hlt5 all0)
            have P_f2_5_64 := P_f2_5_23.keep K64q (allS hlt5 all0)
            have Zs65 := Nat.le_trans Zs24 K64q.1
            have pre75 : ∀ t, Steps p.tables e below (T64.setTop (mkF m 144 #[.val (.int p0), .val (.int p1), .val (.int p2), .val (.int (1 : Int32)), .val (.int (0 : Int32)), .val (.int md), .val (.int er), .val (.ref b1), .val (.int (1 : Int32)), .val (.int (1 : Int32)), .val (.int (0 : Int32)), .unset, .unset, .unset, .unset] [])) t → Steps p.tables e below (s₁.setTop (entryFrame m #[(.int p0), (.int p1), (.int p2)] maxLocals)) t := by
              intro t k
              refine pre58 t ?_
              show Steps p.tables e below (T23.setTop (mkF m 135 #[.val (.int p0), .val (.int p1), .val (.int p2), .val (.int (1 : Int32)), .val (.int (0 : Int32)), .val (.int md), .val (.int er), .val (.ref b1), .val (.int (1 : Int32)), .val (.int (1 : Int32)), .unset, .unset, .unset, .unset, .unset] [])) _
              refine XS.aload X23.here hx rfl (hb hby at_135) rfl rfl ?_
              show Steps p.tables e below (T23.setTop (mkF m 137 #[.val (.int p0), .val (.int p1), .val (.int p2), .val (.int (1 : Int32)), .val (.int (0 : Int32)), .val (.int md), .val (.int er), .val (.ref b1), .val (.int (1 : Int32)), .val (.int (1 : Int32)), .unset, .unset, .unset, .unset, .unset] [(.ref b1)])) _
              refine XS.iload X23.here hx rfl (hb hby at_137) rfl ?_
              show Steps p.tables e below (T23.setTop (mkF m 139 #[.val (.int p0), .val (.int p1), .val (.int p2), .val (.int (1 : Int32)), .val (.int (0 : Int32)), .val (.int md), .val (.int er), .val (.ref b1), .val (.int (1 : Int32)), .val (.int (1 : Int32)), .unset, .unset, .unset, .unset, .unset] [(.int er), (.ref b1)])) _
              refine st64.trans ?_
              show Steps p.tables e below (T64.setTop (mkF m 142 #[.val (.int p0), .val (.int p1), .val (.int p2), .val (.int (1 : Int32)), .val (.int (0 : Int32)), .val (.int md), .val (.int er), .val (.ref b1), .val (.int (1 : Int32)), .val (.int (1 : Int32)), .unset, .unset, .unset, .unset, .unset] [(.int (0 : Int32))])) _
              refine XS.istore X64.here hx rfl (hb hby at_142) rfl (l' := #[.val (.int p0), .val (.int p1), .val (.int p2), .val (.int (1 : Int32)), .val (.int (0 : Int32)), .val (.int md), .val (.int er), .val (.ref b1), .val (.int (1 : Int32)), .val (.int (1 : Int32)), .val (.int (0 : Int32)), .unset, .unset, .unset, .unset]) rfl ?_
              exact k
            have pre76 : ∀ t, Steps p.tables e below (T64.setTop (mkF m 170 #[.val (.int p0), .val (.int p1), .val (.int p2), .val (.int (1 : Int32)), .val (.int (0 : Int32)), .val (.int md), .val (.int er), .val (.ref b1), .val (.int (1 : Int32)), .val (.int (1 : Int32)), .val (.int (0 : Int32)), .val (.int (0 : Int32)), .unset, .unset, .unset] [])) t → Steps p.tables e below (s₁.setTop (entryFrame m #[(.int p0), (.int p1), (.int p2)] maxLocals)) t := by
              intro t k
              refine pre75 t ?_
              show Steps p.tables e below (T64.setTop (mkF m 144 #[.val (.int p0), .val (.int p1), .val (.int p2), .val (.int (1 : Int32)), .val (.int (0 : Int32)), .val (.int md), .val (.int er), .val (.ref b1), .val (.int (1 : Int32)), .val (.int (1 : Int32)), .val (.int (0 : Int32)), .unset, .unset, .unset, .unset] [])) _
              refine XS.iload X64.here hx rfl (hb hby at_144) rfl ?_
              show Steps p.tables e below (T64.setTop (mkF m 146 #[.val (.int p0), .val (.int p1), .val (.int p2), .val (.int (1 : Int32)), .val (.int (0 : Int32)), .val (.int md), .val (.int er), .val (.ref b1), .val (.int (1 : Int32)), .val (.int (1 : Int32)), .val (.int (0 : Int32)), .unset, .unset, .unset, .unset] [(.int (1 : Int32))])) _
              refine XS.ifNo X64.here hx rfl (hb hby at_146) rfl ((if0 _ _).trans (feq (by decide : ¬ ((1 : Int32) = (0 : Int32)))).1) ?_
              show Steps p.tables e below (T64.setTop (mkF m 149 #[.val (.int p0), .val (.int p1), .val (.int p2), .val (.int (1 : Int32)), .val (.int (0 : Int32)), .val (.int md), .val (.int er), .val (.ref b1), .val (.int (1 : Int32)), .val (.int (1 : Int32)), .val (.int (0 : Int32)), .unset, .unset, .unset, .unset] [])) _
              refine XS.iload X64.here hx rfl (hb hby at_149) rfl ?_
              show Steps p.tables e below (T64.setTop (mkF m 151 #[.val (.int p0), .val (.int p1), .val (.int p2), .val (.int (1 : Int32)), .val (.int (0 : Int32)), .val (.int md), .val (.int er), .val (.ref b1), .val (.int (1 : Int32)), .val (.int (1 : Int32)), .val (.int (0 : Int32)), .unset, .unset, .unset, .unset] [(.int er)])) _
              refine XS.bipush X64.here hx rfl (hb hby at_151) ?_
              show Steps p.tables e below (T64.setTop (mkF m 153 #[.val (.int p0), .val (.int p1), .val (.int p2), .val (.int (1 : Int32)), .val (.int (0 : Int32)), .val (.int md), .val (.int er), .val (.ref b1), .val (.int (1 : Int32)), .val (.int (1 : Int32)), .val (.int (0 : Int32)), .unset, .unset, .unset, .unset] [(.int (70 : Int32)), (.int er)])) _
              refine XS.icmpNo X64.here hx rfl (hb hby at_153) rfl (feq h70).1 ?_
              show Steps p.tables e below (T64.setTop (mkF m 156 #[.val (.int p0), .val (.int p1), .val (.int p2), .val (.int (1 : Int32)), .val (.int (0 : Int32)), .val (.int md), .val (.int er), .val (.ref b1), .val (.int (1 : Int32)), .val (.int (1 : Int32)), .val (.int (0 : Int32)), .unset, .unset, .unset, .unset] [])) _
              refine XS.iload X64.here hx rfl (hb hby at_156) rfl ?_
              show Steps p.tables e below (T64.setTop (mkF m 158 #[.val (.int p0), .val (.int p1), .val (.int p2), .val (.int (1 : Int32)), .val (.int (0 : Int32)), .val (.int md), .val (.int er), .val (.ref b1), .val (.int (1 : Int32)), .val (.int (1 : Int32)), .val (.int (0 : Int32)), .unset, .unset, .unset, .unset] [(.int er)])) _
              refine XS.bipush X64.here hx rfl (hb hby at_158) ?_
              show Steps p.tables e below (T64.setTop (mkF m 160 #[.val (.int p0), .val (.int p1), .val (.int p2), .val (.int (1 : Int32)), .val (.int (0 : Int32)), .val (.int md), .val (.int er), .val (.ref b1), .val (.int (1 : Int32)), .val (.int (1 : Int32)), .val (.int (0 : Int32)), .unset, .unset, .unset, .unset] [(.int (71 : Int32)), (.int er)])) _
              refine XS.icmpYes X64.here hx rfl (pc0 := 160) (pc' := 167) rfl (hb hby at_160) rfl (feq h71).2 (by decide) (by decide) ?_
              show Steps p.tables e below (T64.setTop (mkF m 167 #[.val (.int p0), .val (.int p1), .val (.int p2), .val (.int (1 : Int32)), .val (.int (0 : Int32)), .val (.int md), .val (.int er), .val (.ref b1), .val (.int (1 : Int32)), .val (.int (1 : Int32)), .val (.int (0 : Int32)), .unset, .unset, .unset, .unset] [])) _
              refine XS.iconst X64.here hx rfl (hb hby at_167) ?_
              show Steps p.tables e below (T64.setTop (mkF m 168 #[.val (.int p0), .val (.int p1), .val (.int p2), .val (.int (1 : Int32)), .val (.int (0 : Int32)), .val (.int md), .val (.int er), .val (.ref b1), .val (.int (1 : Int32)), .val (.int (1 : Int32)), .val (.int (0 : Int32)), .unset, .unset, .unset, .unset] [(.int (0 : Int32))])) _
              refine XS.istore X64.here hx rfl (hb hby at_168) rfl (l' := #[.val (.int p0), .val (.int p1), .val (.int p2), .val (.int (1 : Int32)), .val (.int (0 : Int32)), .val (.int md), .val (.int er), .val (.ref b1), .val (.int (1 : Int32)), .val (.int (1 : Int32)), .val (.int (0 : Int32)), .val (.int (0 : Int32)), .unset, .unset, .unset]) rfl ?_
              exact k
            have pre77 : ∀ t, Steps p.tables e below (T64.setTop (mkF m 194 #[.val (.int p0), .val (.int p1), .val (.int p2), .val (.int (1 : Int32)), .val (.int (0 : Int32)), .val (.int md), .val (.int er), .val (.ref b1), .val (.int (1 : Int32)), .val (.int (1 : Int32)), .val (.int (0 : Int32)), .val (.int (0 : Int32)), .val (.int p0), .unset, .unset] [])) t → Steps p.tables e below (s₁.setTop (entryFrame m #[(.int p0), (.int p1), (.int p2)] maxLocals)) t := by
              intro t k
              refine pre76 t ?_
              show Steps p.tables e below (T64.setTop (mkF m 170 #[.val (.int p0), .val (.int p1), .val (.int p2), .val (.int (1 : Int32)), .val (.int (0 : Int32)), .val (.int md), .val (.int er), .val (.ref b1), .val (.int (1 : Int32)), .val (.int (1 : Int32)), .val (.int (0 : Int32)), .val (.int (0 : Int32)), .unset, .unset, .unset] [])) _
              refine XS.iload X64.here hx rfl (hb hby at_170) rfl ?_
              show Steps p.tables e below (T64.setTop (mkF m 172 #[.val (.int p0), .val (.int p1), .val (.int p2), .val (.int (1 : Int32)), .val (.int (0 : Int32)), .val (.int md), .val (.int er), .val (.ref b1), .val (.int (1 : Int32)), .val (.int (1 : Int32)), .val (.int (0 : Int32)), .val (.int (0 : Int32)), .unset, .unset, .unset] [(.int (1 : Int32))])) _
              refine XS.ifNo X64.here hx rfl (hb hby at_172) rfl ((if0 _ _).trans (feq (by decide : ¬ ((1 : Int32) = (0 : Int32)))).1) ?_
              show Steps p.tables e below (T64.setTop (mkF m 175 #[.val (.int p0), .val (.int p1), .val (.int p2), .val (.int (1 : Int32)), .val (.int (0 : Int32)), .val (.int md), .val (.int er), .val (.ref b1), .val (.int (1 : Int32)), .val (.int (1 : Int32)), .val (.int (0 : Int32)), .val (.int (0 : Int32)), .unset, .unset, .unset] [])) _
              refine XS.iload X64.here hx rfl (hb hby at_175) rfl ?_
              show Steps p.tables e below (T64.setTop (mkF m 177 #[.val (.int p0), .val (.int p1), .val (.int p2), .val (.int (1 : Int32)), .val (.int (0 : Int32)), .val (.int md), .val (.int er), .val (.ref b1), .val (.int (1 : Int32)), .val (.int (1 : Int32)), .val (.int (0 : Int32)), .val (.int (0 : Int32)), .unset, .unset, .unset] [(.int (0 : Int32))])) _
              refine XS.ifYes X64.here hx rfl (pc0 := 177) (pc' := 187) rfl (hb hby at_177) rfl ((if0 _ _).trans (teq (rfl : (0 : Int32) = (0 : Int32))).1) (by decide) (by decide) ?_
              show Steps p.tables e below (T64.setTop (mkF m 187 #[.val (.int p0), .val (.int p1), .val (.int p2), .val (.int (1 : Int32)), .val (.int (0 : Int32)), .val (.int md), .val (.int er), .val (.ref b1), .val (.int (1 : Int32)), .val (.int (1 : Int32)), .val (.int (0 : Int32)), .val (.int (0 : Int32)), .unset, .unset, .unset] [])) _
              refine XS.iloadN X64.here hx rfl (hb hby at_187) rfl ?_
              show Steps p.tables e below (T64.setTop (mkF m 188 #[.val (.int p0), .val (.int p1), .val (.int p2), .val (.int (1 : Int32)), .val (.int (0 : Int32)), .val (.int md), .val (.int er), .val (.ref b1), .val (.int (1 : Int32)), .val (.int (1 : Int32)), .val (.int (0 : Int32)), .val (.int (0 : Int32)), .unset, .unset, .unset] [(.int p0)])) _
              refine XS.goto X64.here hx rfl (pc0 := 188) (pc' := 192) rfl (hb hby at_188) (by decide) (by decide) ?_
              show Steps p.tables e below (T64.setTop (mkF m 192 #[.val (.int p0), .val (.int p1), .val (.int p2), .val (.int (1 : Int32)), .val (.int (0 : Int32)), .val (.int md), .val (.int er), .val (.ref b1), .val (.int (1 : Int32)), .val (.int (1 : Int32)), .val (.int (0 : Int32)), .val (.int (0 : Int32)), .unset, .unset, .unset] [(.int p0)])) _
              refine XS.istore X64.here hx rfl (hb hby at_192) rfl (l' := #[.val (.int p0), .val (.int p1), .val (.int p2), .val (.int (1 : Int32)), .val (.int (0 : Int32)), .val (.int md), .val (.int er), .val (.ref b1), .val (.int (1 : Int32)), .val (.int (1 : Int32)), .val (.int (0 : Int32)), .val (.int (0 : Int32)), .val (.int p0), .unset, .unset]) rfl ?_
              exact k
            have pre78 : ∀ t, Steps p.tables e below (T64.setTop (mkF m 207 #[.val (.int p0), .val (.int p1), .val (.int p2), .val (.int (1 : Int32)), .val (.int (0 : Int32)), .val (.int md), .val (.int er), .val (.ref b1), .val (.int (1 : Int32)), .val (.int (1 : Int32)), .val (.int (0 : Int32)), .val (.int (0 : Int32)), .val (.int p0), .val (.int (1 : Int32)), .unset] [])) t → Steps p.tables e below (s₁.setTop (entryFrame m #[(.int p0), (.int p1), (.int p2)] maxLocals)) t := by
              intro t k
              refine pre77 t ?_
              show Steps p.tables e below (T64.setTop (mkF m 194 #[.val (.int p0), .val (.int p1), .val (.int p2), .val (.int (1 : Int32)), .val (.int (0 : Int32)), .val (.int md), .val (.int er), .val (.ref b1), .val (.int (1 : Int32)), .val (.int (1 : Int32)), .val (.int (0 : Int32)), .val (.int (0 : Int32)), .val (.int p0), .unset, .unset] [])) _
              refine XS.iload X64.here hx rfl (hb hby at_194) rfl ?_
              show Steps p.tables e below (T64.setTop (mkF m 196 #[.val (.int p0), .val (.int p1), .val (.int p2), .val (.int (1 : Int32)), .val (.int (0 : Int32)), .val (.int md), .val (.int er), .val (.ref b1), .val (.int (1 : Int32)), .val (.int (1 : Int32)), .val (.int (0 : Int32)), .val (.int (0 : Int32)), .val (.int p0), .unset, .unset] [(.int (0 : Int32))])) _
              refine XS.ifYes X64.here hx rfl (pc0 := 196) (pc' := 203) rfl (hb hby at_196) rfl ((if0 _ _).trans (teq (rfl : (0 : Int32) = (0 : Int32))).1) (by decide) (by decide) ?_
              show Steps p.tables e below (T64.setTop (mkF m 203 #[.val (.int p0), .val (.int p1), .val (.int p2), .val (.int (1 : Int32)), .val (.int (0 : Int32)), .val (.int md), .val (.int er), .val (.ref b1), .val (.int (1 : Int32)), .val (.int (1 : Int32)), .val (.int (0 : Int32)), .val (.int (0 : Int32)), .val (.int p0), .unset, .unset] [])) _
              refine XS.iload X64.here hx rfl (hb hby at_203) rfl ?_
              show Steps p.tables e below (T64.setTop (mkF m 205 #[.val (.int p0), .val (.int p1), .val (.int p2), .val (.int (1 : Int32)), .val (.int (0 : Int32)), .val (.int md), .val (.int er), .val (.ref b1), .val (.int (1 : Int32)), .val (.int (1 : Int32)), .val (.int (0 : Int32)), .val (.int (0 : Int32)), .val (.int p0), .unset, .unset] [(.int (1 : Int32))])) _
              refine XS.istore X64.here hx rfl (hb hby at_205) rfl (l' := #[.val (.int p0), .val (.int p1), .val (.int p2), .val (.int (1 : Int32)), .val (.int (0 : Int32)), .val (.int md), .val (.int er), .val (.ref b1), .val (.int (1 : Int32)), .val (.int (1 : Int32)), .val (.int (0 : Int32)), .val (.int (0 : Int32)), .val (.int p0), .val (.int (1 : Int32)), .unset]) rfl ?_
              exact k
            obtain ⟨cq66, kq66, q66a, q66b, q66c⟩ := isOf hZ rfl E64q
            obtain ⟨_, _, ⟨T66, L66, k66, n66⟩, -, X66, ⟨Lc66, hQ66, l66, y66, z66⟩, st66⟩ := X64.virtualBack hx (y := (⟨"com/example/tideline/tideline/session/FetcherSession", "next", "()Lcom/example/tideline/tideline/session/FetcherSession$Request;"⟩ : MethodName)) (z := (⟨"com/example/tideline/tideline/session/FetcherSession", "next", "()Lcom/example/tideline/tideline/session/FetcherSession$Request;"⟩ : MethodName)) hown (mvT hZ (hw _ (List.mem_of_getElem? (i := 52) rfl))) (mvT hZ (hw _ (List.mem_of_getElem? (i := 53) rfl))) (notFace_of_selects (args := #[]) (mvT hZ (hw _ (List.mem_of_getElem? (i := 55) rfl)))) (mvT hZ (hw _ (List.mem_of_getElem? (i := 55) rfl))) (mvT hZ (hw _ (List.mem_of_getElem? (i := 54) rfl))) (by decide) (backOf (W := 0) (rm7 l Z a0 hw [] b1 p0 (1 : Int32) l2_5 f2_5 (.ref xb3) (.ref rq5) T64.heap n0 Zs65 F0_64q F1_64q F2_64q F3_64q F4_64q F5_64q E64q g_b1) hZ (hw _ (List.mem_of_getElem? (i := 56) rfl)) (hw _ (List.mem_of_getElem? (i := 2) rfl)) (by decide) (by decide)) q66a q66c (g := (mkF m 209 #[.val (.int p0), .val (.int p1), .val (.int p2), .val (.int (1 : Int32)), .val (.int (0 : Int32)), .val (.int md), .val (.int er), .val (.ref b1), .val (.int (1 : Int32)), .val (.int (1 : Int32)), .val (.int (0 : Int32)), .val (.int (0 : Int32)), .val (.int p0), .val (.int (1 : Int32)), .unset] [(.ref b1)])) rfl (by rw [hml]; rfl) (Steps.refl _) (argsL := []) (rest := []) (lenOf pd_7 rfl) rfl (by show 2 * 0 + _ ≤ _; exact Nat.le_of_eq rfl) (hb hby at_209) (fun _ _ => ⟨rfl, rfl, (by decide : 14 + 7 ≤ _), (by decide : 94 + 46 ≤ _)⟩)
            dsimp only [Pt.U, Pt.locs, Pt.cells, Pt.slots] at X66 l66 y66 z66 st66 hQ66
            subst l66 y66 z66
            obtain ⟨rq66, l2_66, f2_66, x3_66, rfl, N66q, K66q, E66q, Fid_66q, Fepoch_66q, Fheld_66q, Fpending_66q, Flisting_66q, Fforgetting_66q, Pl66q, Pf66q, Er66q, ge66q, RsessionId_66q, Repoch_66q, Rlisted_66q, Rforgotten_66q, hx66q⟩ := hQ66
            have N66 := Fr.app N64 N66q
            have hlt66 : b1 < T64.heap.size := E64q.lt
            have E_b1_66 := E64q.keep K66q
            have P_l2_5_66 := P_l2_5_64.keep K66q (allS hlt5 all0)
            have P_f2_5_66 := P_f2_5_64.keep K66q (allS hlt5 all0)
            have Zs67 := Nat.le_trans Zs65 K66q.1
            have ne_rq66 : rq66 ≠ b1 := fun q => Nat.lt_irrefl _ (Nat.lt_of_lt_of_le (q ▸ hlt66) ge66q)
            obtain rfl : f2_5 = x3_66 := (hx66q (by decide)).symm
            have pre79 : ∀ t, Steps p.tables e below (T66.setTop (mkF m 214 #[.val (.int p0), .val (.int p1), .val (.int p2), .val (.int (1 : Int32)), .val (.int (0 : Int32)), .val (.int md), .val (.int er), .val (.ref b1), .val (.int (1 : Int32)), .val (.int (1 : Int32)), .val (.int (0 : Int32)), .val (.int (0 : Int32)), .val (.int p0), .val (.int (1 : Int32)), .val (.ref rq66)] [])) t → Steps p.tables e below (s₁.setTop (entryFrame m #[(.int p0), (.int p1), (.int p2)] maxLocals)) t := by
              intro t k
              refine pre78 t ?_
              show Steps p.tables e below (T64.setTop (mkF m 207 #[.val (.int p0), .val (.int p1), .val (.int p2), .val (.int (1 : Int32)), .val (.int (0 : Int32)), .val (.int md), .val (.int er), .val (.ref b1), .val (.int (1 : Int32)), .val (.int (1 : Int32)), .val (.int (0 : Int32)), .val (.int (0 : Int32)), .val (.int p0), .val (.int (1 : Int32)), .unset] [])) _
              refine XS.aload X64.here hx rfl (hb hby at_207) rfl rfl ?_
              show Steps p.tables e below (T64.setTop (mkF m 209 #[.val (.int p0), .val (.int p1), .val (.int p2), .val (.int (1 : Int32)), .val (.int (0 : Int32)), .val (.int md), .val (.int er), .val (.ref b1), .val (.int (1 : Int32)), .val (.int (1 : Int32)), .val (.int (0 : Int32)), .val (.int (0 : Int32)), .val (.int p0), .val (.int (1 : Int32)), .unset] [(.ref b1)])) _
              refine st66.trans ?_
              show Steps p.tables e below (T66.setTop (mkF m 212 #[.val (.int p0), .val (.int p1), .val (.int p2), .val (.int (1 : Int32)), .val (.int (0 : Int32)), .val (.int md), .val (.int er), .val (.ref b1), .val (.int (1 : Int32)), .val (.int (1 : Int32)), .val (.int (0 : Int32)), .val (.int (0 : Int32)), .val (.int p0), .val (.int (1 : Int32)), .unset] [(.ref rq66)])) _
              refine XS.astore X66.here hx rfl (hb hby at_212) rfl rfl (l' := #[.val (.int p0), .val (.int p1), .val (.int p2), .val (.int (1 : Int32)), .val (.int (0 : Int32)), .val (.int md), .val (.int er), .val (.ref b1), .val (.int (1 : Int32)), .val (.int (1 : Int32)), .val (.int (0 : Int32)), .val (.int (0 : Int32)), .val (.int p0), .val (.int (1 : Int32)), .val (.ref rq66)]) rfl ?_
              exact k
            have pre80 : ∀ t, Steps p.tables e below (T66.setTop (mkF m 221 #[.val (.int p0), .val (.int p1), .val (.int p2), .val (.int (1 : Int32)), .val (.int (0 : Int32)), .val (.int md), .val (.int er), .val (.ref b1), .val (.int (1 : Int32)), .val (.int (1 : Int32)), .val (.int (0 : Int32)), .val (.int (0 : Int32)), .val (.int p0), .val (.int (1 : Int32)), .val (.ref rq66)] [])) t → Steps p.tables e below (s₁.setTop (entryFrame m #[(.int p0), (.int p1), (.int p2)] maxLocals)) t := by
              intro t k
              refine pre79 t ?_
              show Steps p.tables e below (T66.setTop (mkF m 214 #[.val (.int p0), .val (.int p1), .val (.int p2), .val (.int (1 : Int32)), .val (.int (0 : Int32)), .val (.int md), .val (.int er), .val (.ref b1), .val (.int (1 : Int32)), .val (.int (1 : Int32)), .val (.int (0 : Int32)), .val (.int (0 : Int32)), .val (.int p0), .val (.int (1 : Int32)), .val (.ref rq66)] [])) _
              refine XS.iload X66.here hx rfl (hb hby at_214) rfl ?_
              show Steps p.tables e below (T66.setTop (mkF m 216 #[.val (.int p0), .val (.int p1), .val (.int p2), .val (.int (1 : Int32)), .val (.int (0 : Int32)), .val (.int md), .val (.int er), .val (.ref b1), .val (.int (1 : Int32)), .val (.int (1 : Int32)), .val (.int (0 : Int32)), .val (.int (0 : Int32)), .val (.int p0), .val (.int (1 : Int32)), .val (.ref rq66)] [(.int (0 : Int32))])) _
              refine XS.iload X66.here hx rfl (hb hby at_216) rfl ?_
              show Steps p.tables e below (T66.setTop (mkF m 218 #[.val (.int p0), .val (.int p1), .val (.int p2), .val (.int (1 : Int32)), .val (.int (0 : Int32)), .val (.int md), .val (.int er), .val (.ref b1), .val (.int (1 : Int32)), .val (.int (1 : Int32)), .val (.int (0 : Int32)), .val (.int (0 : Int32)), .val (.int p0), .val (.int (1 : Int32)), .val (.ref rq66)] [(.int (0 : Int32)), (.int (0 : Int32))])) _
              refine XS.icmpNo X66.here hx rfl (hb hby at_218) rfl (teq (rfl : (0 : Int32) = (0 : Int32))).2 ?_
              exact k
            obtain ⟨cq68, kq68, q68a, q68b, q68c⟩ := isOf hZ rfl E66q
            obtain ⟨_, _, ⟨T68, L68, k68, n68⟩, -, X68, ⟨Lc68, hQ68, l68, y68, z68⟩, st68⟩ := X66.virtualBack hx (y := (⟨"com/example/tideline/tideline/session/FetcherSession", "incremental", "()Z"⟩ : MethodName)) (z := (⟨"com/example/tideline/tideline/session/FetcherSession", "incremental", "()Z"⟩ : MethodName)) hown (mvT hZ (hw _ (List.mem_of_getElem? (i := 86) rfl))) (mvT hZ (hw _ (List.mem_of_getElem? (i := 87) rfl))) (notFace_of_selects (args := #[]) (mvT hZ (hw _ (List.mem_of_getElem? (i := 89) rfl)))) (mvT hZ (hw _ (List.mem_of_getElem? (i := 89) rfl))) (mvT hZ (hw _ (List.mem_of_getElem? (i := 88) rfl))) (by decide) (backOf (W := 0) (rm11n l Z a0 hw [] b1 (1 : Int32) T66.heap n0 Zs67 Fepoch_66q (by decide)) hZ (hw _ (List.mem_of_getElem? (i := 90) rfl)) (hw _ (List.mem_of_getElem? (i := 2) rfl)) (by decide) (by decide)) q68a q68c (g := (mkF m 223 #[.val (.int p0), .val (.int p1), .val (.int p2), .val (.int (1 : Int32)), .val (.int (0 : Int32)), .val (.int md), .val (.int er), .val (.ref b1), .val (.int (1 : Int32)), .val (.int (1 : Int32)), .val (.int (0 : Int32)), .val (.int (0 : Int32)), .val (.int p0), .val (.int (1 : Int32)), .val (.ref rq66)] [(.ref b1)])) rfl (by rw [hml]; rfl) (Steps.refl _) (argsL := []) (rest := []) (lenOf pd_10 rfl) rfl (by show 2 * 0 + _ ≤ _; exact Nat.le_of_eq rfl) (hb hby at_223) (fun _ _ => ⟨rfl, rfl, (by decide : 21 + 0 ≤ _), (by decide : 140 + 0 ≤ _)⟩)
            dsimp only [Pt.U, Pt.locs, Pt.cells, Pt.slots] at X68 l68 y68 z68 st68 hQ68
            subst l68 y68 z68
            obtain ⟨rfl, N68q, e68q⟩ := hQ68
            have N68 := Fr.app N66 N68q
            have pre81 : ∀ t, Steps p.tables e below (T68.setTop (mkF m 228 #[.val (.int p0), .val (.int p1), .val (.int p2), .val (.int (1 : Int32)), .val (.int (0 : Int32)), .val (.int md), .val (.int er), .val (.ref b1), .val (.int (1 : Int32)), .val (.int (1 : Int32)), .val (.int (0 : Int32)), .val (.int (0 : Int32)), .val (.int p0), .val (.int (1 : Int32)), .val (.ref rq66)] [(.int (1 : Int32)), (.int (1 : Int32))])) t → Steps p.tables e below (s₁.setTop (entryFrame m #[(.int p0), (.int p1), (.int p2)] maxLocals)) t := by
              intro t k
              refine pre80 t ?_
              show Steps p.tables e below (T66.setTop (mkF m 221 #[.val (.int p0), .val (.int p1), .val (.int p2), .val (.int (1 : Int32)), .val (.int (0 : Int32)), .val (.int md), .val (.int er), .val (.ref b1), .val (.int (1 : Int32)), .val (.int (1 : Int32)), .val (.int (0 : Int32)), .val (.int (0 : Int32)), .val (.int p0), .val (.int (1 : Int32)), .val (.ref rq66)] [])) _
              refine XS.aload X66.here hx rfl (hb hby at_221) rfl rfl ?_
              show Steps p.tables e below (T66.setTop (mkF m 223 #[.val (.int p0), .val (.int p1), .val (.int p2), .val (.int (1 : Int32)), .val (.int (0 : Int32)), .val (.int md), .val (.int er), .val (.ref b1), .val (.int (1 : Int32)), .val (.int (1 : Int32)), .val (.int (0 : Int32)), .val (.int (0 : Int32)), .val (.int p0), .val (.int (1 : Int32)), .val (.ref rq66)] [(.ref b1)])) _
              refine st68.trans ?_
              show Steps p.tables e below (T68.setTop (mkF m 226 #[.val (.int p0), .val (.int p1), .val (.int p2), .val (.int (1 : Int32)), .val (.int (0 : Int32)), .val (.int md), .val (.int er), .val (.ref b1), .val (.int (1 : Int32)), .val (.int (1 : Int32)), .val (.int (0 : Int32)), .val (.int (0 : Int32)), .val (.int p0), .val (.int (1 : Int32)), .val (.ref rq66)] [(.int (1 : Int32))])) _
              refine XS.iload X68.here hx rfl (hb hby at_226) rfl ?_
              exact k
            have pre82 : ∀ t, Steps p.tables e below (T68.setTop (mkF m 236 #[.val (.int p0), .val (.int p1), .val (.int p2), .val (.int (1 : Int32)), .val (.int (0 : Int32)), .val (.int md), .val (.int er), .val (.ref b1), .val (.int (1 : Int32)), .val (.int (1 : Int32)), .val (.int (0 : Int32)), .val (.int (0 : Int32)), .val (.int p0), .val (.int (1 : Int32)), .val (.ref rq66)] [(.int (1 : Int32)), (.int (1 : Int32))])) t → Steps p.tables e below (s₁.setTop (entryFrame m #[(.int p0), (.int p1), (.int p2)] maxLocals)) t := by
              intro t k
              refine pre81 t ?_
              show Steps p.tables e below (T68.setTop (mkF m 228 #[.val (.int p0), .val (.int p1), .val (.int p2), .val (.int (1 : Int32)), .val (.int (0 : Int32)), .val (.int md), .val (.int er), .val (.ref b1), .val (.int (1 : Int32)), .val (.int (1 : Int32)), .val (.int (0 : Int32)), .val (.int (0 : Int32)), .val (.int p0), .val (.int (1 : Int32)), .val (.ref rq66)] [(.int (1 : Int32)), (.int (1 : Int32))])) _
              refine XS.ifNo X68.here hx rfl (hb hby at_228) rfl ((if0 _ _).trans (feq (by decide : ¬ ((1 : Int32) = (0 : Int32)))).1) ?_
              show Steps p.tables e below (T68.setTop (mkF m 231 #[.val (.int p0), .val (.int p1), .val (.int p2), .val (.int (1 : Int32)), .val (.int (0 : Int32)), .val (.int md), .val (.int er), .val (.ref b1), .val (.int (1 : Int32)), .val (.int (1 : Int32)), .val (.int (0 : Int32)), .val (.int (0 : Int32)), .val (.int p0), .val (.int (1 : Int32)), .val (.ref rq66)] [(.int (1 : Int32))])) _
              refine XS.iconst X68.here hx rfl (hb hby at_231) ?_
              show Steps p.tables e below (T68.setTop (mkF m 232 #[.val (.int p0), .val (.int p1), .val (.int p2), .val (.int (1 : Int32)), .val (.int (0 : Int32)), .val (.int md), .val (.int er), .val (.ref b1), .val (.int (1 : Int32)), .val (.int (1 : Int32)), .val (.int (0 : Int32)), .val (.int (0 : Int32)), .val (.int p0), .val (.int (1 : Int32)), .val (.ref rq66)] [(.int (1 : Int32)), (.int (1 : Int32))])) _
              refine XS.goto X68.here hx rfl (pc0 := 232) (pc' := 236) rfl (hb hby at_232) (by decide) (by decide) ?_
              exact k
            obtain ⟨cq69, kq69, q69a, q69b, q69c⟩ := isOf hZ e68q Er66q
            obtain ⟨_, _, ⟨T69, L69, k69, n69⟩, -, X69, ⟨Lc69, hQ69, l69, y69, z69⟩, st69⟩ := X68.virtualBack hx (y := (⟨"com/example/tideline/tideline/session/FetcherSession$Request", "sessionId", "()I"⟩ : MethodName)) (z := (⟨"com/example/tideline/tideline/session/FetcherSession$Request", "sessionId", "()I"⟩ : MethodName)) hown (mvT hZ (hw _ (List.mem_of_getElem? (i := 91) rfl))) (mvT hZ (hw _ (List.mem_of_getElem? (i := 92) rfl))) (notFace_of_selects (args := #[]) (mvT hZ (hw _ (List.mem_of_getElem? (i := 94) rfl)))) (mvT hZ (hw _ (List.mem_of_getElem? (i := 94) rfl))) (mvT hZ (hw _ (List.mem_of_getElem? (i := 93) rfl))) (by decide) (backOf (W := 0) (rm12 l Z a0 hw [] rq66 p0 T66.heap n0 Zs67 RsessionId_66q) hZ (hw _ (List.mem_of_getElem? (i := 95) rfl)) (hw _ (List.mem_of_getElem? (i := 59) rfl)) (by decide) (by decide)) q69a q69c (g := (mkF m 241 #[.val (.int p0), .val (.int p1), .val (.int p2), .val (.int (1 : Int32)), .val (.int (0 : Int32)), .val (.int md), .val (.int er), .val (.ref b1), .val (.int (1 : Int32)), .val (.int (1 : Int32)), .val (.int (0 : Int32)), .val (.int (0 : Int32)), .val (.int p0), .val (.int (1 : Int32)), .val (.ref rq66)] [(.ref rq66)])) rfl (by rw [hml]; rfl) (Steps.refl _) (argsL := []) (rest := []) (lenOf pd_11 rfl) rfl (by show 2 * 0 + _ ≤ _; exact Nat.le_of_eq rfl) (hb hby at_241) (fun _ _ => ⟨rfl, e68q, (by decide : 21 + 0 ≤ _), (by decide : 140 + 0 ≤ _)⟩)
            dsimp only [Pt.U, Pt.locs, Pt.cells, Pt.slots] at X69 l69 y69 z69 st69 hQ69
            subst l69 y69 z69
            obtain ⟨rfl, N69q, e69q⟩ := hQ69
            have N69 := Fr.app N68 N69q
            obtain ⟨cq70, kq70, q70a, q70b, q70c⟩ := isOf hZ e69q Er66q
            obtain ⟨_, _, ⟨T70, L70, k70, n70⟩, -, X70, ⟨Lc70, hQ70, l70, y70, z70⟩, st70⟩ := X69.virtualBack hx (y := (⟨"com/example/tideline/tideline/session/FetcherSession$Request", "epoch", "()I"⟩ : MethodName)) (z := (⟨"com/example/tideline/tideline/session/FetcherSession$Request", "epoch", "()I"⟩ : MethodName)) hown (mvT hZ (hw _ (List.mem_of_getElem? (i := 96) rfl))) (mvT hZ (hw _ (List.mem_of_getElem? (i := 97) rfl))) (notFace_of_selects (args := #[]) (mvT hZ (hw _ (List.mem_of_getElem? (i := 99) rfl)))) (mvT hZ (hw _ (List.mem_of_getElem? (i := 99) rfl))) (mvT hZ (hw _ (List.mem_of_getElem? (i := 98) rfl))) (by decide) (backOf (W := 0) (rm13 l Z a0 hw [] rq66 (1 : Int32) T66.heap n0 Zs67 Repoch_66q) hZ (hw _ (List.mem_of_getElem? (i := 100) rfl)) (hw _ (List.mem_of_getElem? (i := 59) rfl)) (by decide) (by decide)) q70a q70c (g := (mkF m 251 #[.val (.int p0), .val (.int p1), .val (.int p2), .val (.int (1 : Int32)), .val (.int (0 : Int32)), .val (.int md), .val (.int er), .val (.ref b1), .val (.int (1 : Int32)), .val (.int (1 : Int32)), .val (.int (0 : Int32)), .val (.int (0 : Int32)), .val (.int p0), .val (.int (1 : Int32)), .val (.ref rq66)] [(.ref rq66)])) rfl (by rw [hml]; rfl) (Steps.refl _) (argsL := []) (rest := []) (lenOf pd_11 rfl) rfl (by show 2 * 0 + _ ≤ _; exact Nat.le_of_eq rfl) (hb hby at_251) (fun _ _ => ⟨rfl, e69q, (by decide : 21 + 0 ≤ _), (by decide : 140 + 0 ≤ _)⟩)
            dsimp only [Pt.U, Pt.locs, Pt.cells, Pt.slots] at X70 l70 y70 z70 st70 hQ70
            subst l70 y70 z70
            obtain ⟨rfl, N70q, e70q⟩ := hQ70
            have N70 := Fr.app N69 N70q
            obtain ⟨fs, hr, hrun, hended, hW, hsame⟩ := X70.leave (v := some (.int (1 : Int32))) (fun h => by rw [Bd.returns] at h; cases h)
            refine ⟨_, _, pre82 _ ?_, hrun, hended, _, _, rfl, ?_, ⟨_, rfl⟩, hW, hsame.mono (by decide) (by decide)⟩
            · show Steps p.tables e below (T68.setTop (mkF m 236 #[.val (.int p0), .val (.int p1), .val (.int p2), .val (.int (1 : Int32)), .val (.int (0 : Int32)), .val (.int md), .val (.int er), .val (.ref b1), .val (.int (1 : Int32)), .val (.int (1 : Int32)), .val (.int (0 : Int32)), .val (.int (0 : Int32)), .val (.int p0), .val (.int (1 : Int32)), .val (.ref rq66)] [(.int (1 : Int32)), (.int (1 : Int32))])) _
              refine XS.icmpNo X68.here hx rfl (hb hby at_236) rfl (teq (rfl : (1 : Int32) = (1 : Int32))).2 ?_
              show Steps p.tables e below (T68.setTop (mkF m 239 #[.val (.int p0), .val (.int p1), .val (.int p2), .val (.int (1 : Int32)), .val (.int (0 : Int32)), .val (.int md), .val (.int er), .val (.ref b1), .val (.int (1 : Int32)), .val (.int (1 : Int32)), .val (.int (0 : Int32)), .val (.int (0 : Int32)), .val (.int p0), .val (.int (1 : Int32)), .val (.ref rq66)] [])) _
              refine XS.aload X68.here hx rfl (hb hby at_239) rfl rfl ?_
              show Steps p.tables e below (T68.setTop (mkF m 241 #[.val (.int p0), .val (.int p1), .val (.int p2), .val (.int (1 : Int32)), .val (.int (0 : Int32)), .val (.int md), .val (.int er), .val (.ref b1), .val (.int (1 : Int32)), .val (.int (1 : Int32)), .val (.int (0 : Int32)), .val (.int (0 : Int32)), .val (.int p0), .val (.int (1 : Int32)), .val (.ref rq66)] [(.ref rq66)])) _
              refine st69.trans ?_
              show Steps p.tables e below (T69.setTop (mkF m 244 #[.val (.int p0), .val (.int p1), .val (.int p2), .val (.int (1 : Int32)), .val (.int (0 : Int32)), .val (.int md), .val (.int er), .val (.ref b1), .val (.int (1 : Int32)), .val (.int (1 : Int32)), .val (.int (0 : Int32)), .val (.int (0 : Int32)), .val (.int p0), .val (.int (1 : Int32)), .val (.ref rq66)] [(.int p0)])) _
              refine XS.iload X69.here hx rfl (hb hby at_244) rfl ?_
              show Steps p.tables e below (T69.setTop (mkF m 246 #[.val (.int p0), .val (.int p1), .val (.int p2), .val (.int (1 : Int32)), .val (.int (0 : Int32)), .val (.int md), .val (.int er), .val (.ref b1), .val (.int (1 : Int32)), .val (.int (1 : Int32)), .val (.int (0 : Int32)), .val (.int (0 : Int32)), .val (.int p0), .val (.int (1 : Int32)), .val (.ref rq66)] [(.int p0), (.int p0)])) _
              refine XS.icmpNo X69.here hx rfl (hb hby at_246) rfl (teq (rfl : p0 = p0)).2 ?_
              show Steps p.tables e below (T69.setTop (mkF m 249 #[.val (.int p0), .val (.int p1), .val (.int p2), .val (.int (1 : Int32)), .val (.int (0 : Int32)), .val (.int md), .val (.int er), .val (.ref b1), .val (.int (1 : Int32)), .val (.int (1 : Int32)), .val (.int (0 : Int32)), .val (.int (0 : Int32)), .val (.int p0), .val (.int (1 : Int32)), .val (.ref rq66)] [])) _
              refine XS.aload X69.here hx rfl (hb hby at_249) rfl rfl ?_
              show Steps p.tables e below (T69.setTop (mkF m 251 #[.val (.int p0), .val (.int p1), .val (.int p2), .val (.int (1 : Int32)), .val (.int (0 : Int32)), .val (.int md), .val (.int er), .val (.ref b1), .val (.int (1 : Int32)), .val (.int (1 : Int32)), .val (.int (0 : Int32)), .val (.int (0 : Int32)), .val (.int p0), .val (.int (1 : Int32)), .val (.ref rq66)] [(.ref rq66)])) _
              refine st70.trans ?_
              show Steps p.tables e below (T70.setTop (mkF m 254 #[.val (.int p0), .val (.int p1), .val (.int p2), .val (.int (1 : Int32)), .val (.int (0 : Int32)), .val (.int md), .val (.int er), .val (.ref b1), .val (.int (1 : Int32)), .val (.int (1 : Int32)), .val (.int (0 : Int32)), .val (.int (0 : Int32)), .val (.int p0), .val (.int (1 : Int32)), .val (.ref rq66)] [(.int (1 : Int32))])) _
              refine XS.iload X70.here hx rfl (hb hby at_254) rfl ?_
              show Steps p.tables e below (T70.setTop (mkF m 256 #[.val (.int p0), .val (.int p1), .val (.int p2), .val (.int (1 : Int32)), .val (.int (0 : Int32)), .val (.int md), .val (.int er), .val (.ref b1), .val (.int (1 : Int32)), .val (.int (1 : Int32)), .val (.int (0 : Int32)), .val (.int (0 : Int32)), .val (.int p0), .val (.int (1 : Int32)), .val (.ref rq66)] [(.int (1 : Int32)), (.int (1 : Int32))])) _
              refine XS.icmpNo X70.here hx rfl (hb hby at_256) rfl (teq (rfl : (1 : Int32) = (1 : Int32))).2 ?_
              show Steps p.tables e below (T70.setTop (mkF m 259 #[.val (.int p0), .val (.int p1), .val (.int p2), .val (.int (1 : Int32)), .val (.int (0 : Int32)), .val (.int md), .val (.int er), .val (.ref b1), .val (.int (1 : Int32)), .val (.int (1 : Int32)), .val (.int (0 : Int32)), .val (.int (0 : Int32)), .val (.int p0), .val (.int (1 : Int32)), .val (.ref rq66)] [])) _
              refine XS.iconst X70.here hx rfl (hb hby at_259) ?_
              show Steps p.tables e below (T70.setTop (mkF m 260 #[.val (.int p0), .val (.int p1), .val (.int p2), .val (.int (1 : Int32)), .val (.int (0 : Int32)), .val (.int md), .val (.int er), .val (.ref b1), .val (.int (1 : Int32)), .val (.int (1 : Int32)), .val (.int (0 : Int32)), .val (.int (0 : Int32)), .val (.int p0), .val (.int (1 : Int32)), .val (.ref rq66)] [(.int (1 : Int32))])) _
              refine XS.goto X70.here hx rfl (pc0 := 260) (pc' := 264) rfl (hb hby at_260) (by decide) (by decide) ?_
              show Steps p.tables e below (T70.setTop (mkF m 264 #[.val (.int p0), .val (.int p1), .val (.int p2), .val (.int (1 : Int32)), .val (.int (0 : Int32)), .val (.int md), .val (.int er), .val (.ref b1), .val (.int (1 : Int32)), .val (.int (1 : Int32)), .val (.int (0 : Int32)), .val (.int (0 : Int32)), .val (.int p0), .val (.int (1 : Int32)), .val (.ref rq66)] [(.int (1 : Int32))])) _
              exact retN X70 hx (t := .boolean) Bd.returns (by simp) (hb hby at_264) hr
            · show Q0 Z p0 p1 p2 h0 n0 _ T70.heap _
              rw [e70q]
              exact ⟨rfl, N70⟩
  · skip
    obtain ⟨rfl, -⟩ := hop
    have pre83 : ∀ t, Steps p.tables e below (T5.setTop (mkF m 98 #[.val (.int p0), .val (.int p1), .val (.int p2), .val (.int (0 : Int32)), .val (.int mo), .val (.int md), .val (.int er), .val (.ref b1), .val (.int (0 : Int32)), .unset, .unset, .unset, .unset, .unset, .unset] [])) t → Steps p.tables e below (s₁.setTop (entryFrame m #[(.int p0), (.int p1), (.int p2)] maxLocals)) t := by
      intro t k
      refine pre6 t ?_
      show Steps p.tables e below (T5.setTop (mkF m 73 #[.val (.int p0), .val (.int p1), .val (.int p2), .val (.int (0 : Int32)), .val (.int mo), .val (.int md), .val (.int er), .val (.ref b1), .unset, .unset, .unset, .unset, .unset, .unset, .unset] [])) _
      refine XS.iloadN X5.here hx rfl (hb hby at_73) rfl ?_
      show Steps p.tables e below (T5.setTop (mkF m 74 #[.val (.int p0), .val (.int p1), .val (.int p2), .val (.int (0 : Int32)), .val (.int mo), .val (.int md), .val (.int er), .val (.ref b1), .unset, .unset, .unset, .unset, .unset, .unset, .unset] [(.int (0 : Int32))])) _
      refine XS.ifYes X5.here hx rfl (pc0 := 74) (pc' := 83) rfl (hb hby at_74) rfl ((if0 _ _).trans (teq (rfl : (0 : Int32) = (0 : Int32))).1) (by decide) (by decide) ?_
      show Steps p.tables e below (T5.setTop (mkF m 83 #[.val (.int p0), .val (.int p1), .val (.int p2), .val (.int (0 : Int32)), .val (.int mo), .val (.int md), .val (.int er), .val (.ref b1), .unset, .unset, .unset, .unset, .unset, .unset, .unset] [])) _
      refine XS.iloadN X5.here hx rfl (hb hby at_83) rfl ?_
      show Steps p.tables e below (T5.setTop (mkF m 84 #[.val (.int p0), .val (.int p1), .val (.int p2), .val (.int (0 : Int32)), .val (.int mo), .val (.int md), .val (.int er), .val (.ref b1), .unset, .unset, .unset, .unset, .unset, .unset, .unset] [(.int (0 : Int32))])) _
      refine XS.ifYes X5.here hx rfl (pc0 := 84) (pc' := 95) rfl (hb hby at_84) rfl ((if0 _ _).trans (teq (rfl : (0 : Int32) = (0 : Int32))).1) (by decide) (by decide) ?_
      show Steps p.tables e below (T5.setTop (mkF m 95 #[.val (.int p0), .val (.int p1), .val (.int p2), .val (.int (0 : Int32)), .val (.int mo), .val (.int md), .val (.int er), .val (.ref b1), .unset, .unset, .unset, .unset, .unset, .unset, .unset] [])) _
      refine XS.iconst X5.here hx rfl (hb hby at_95) ?_
      show Steps p.tables e below (T5.setTop (mkF m 96 #[.val (.int p0), .val (.int p1), .val (.int p2), .val (.int (0 : Int32)), .val (.int mo), .val (.int md), .val (.int er), .val (.ref b1), .unset, .unset, .unset, .unset, .unset, .unset, .unset] [(.int (0 : Int32))])) _
      refine XS.istore X5.here hx rfl (hb hby at_96) rfl (l' := #[.val (.int p0), .val (.int p1), .val (.int p2), .val (.int (0 : Int32)), .val (.int mo), .val (.int md), .val (.int er), .val (.ref b1), .val (.int (0 : Int32)), .unset, .unset, .unset, .unset, .unset, .unset]) rfl ?_
      exact k
    have pre84 : ∀ t, Steps p.tables e below (T5.setTop (mkF m 110 #[.val (.int p0), .val (.int p1), .val (.int p2), .val (.int (0 : Int32)), .val (.int mo), .val (.int md), .val (.int er), .val (.ref b1), .val (.int (0 : Int32)), .val (.int (0 : Int32)), .unset, .unset, .unset, .unset, .unset] [])) t → Steps p.tables e below (s₁.setTop (entryFrame m #[(.int p0), (.int p1), (.int p2)] maxLocals)) t := by
      intro t k
      refine pre83 t ?_
      show Steps p.tables e below (T5.setTop (mkF m 98 #[.val (.int p0), .val (.int p1), .val (.int p2), .val (.int (0 : Int32)), .val (.int mo), .val (.int md), .val (.int er), .val (.ref b1), .val (.int (0 : Int32)), .unset, .unset, .unset, .unset, .unset, .unset] [])) _
      refine XS.iload X5.here hx rfl (hb hby at_98) rfl ?_
      show Steps p.tables e below (T5.setTop (mkF m 100 #[.val (.int p0), .val (.int p1), .val (.int p2), .val (.int (0 : Int32)), .val (.int mo), .val (.int md), .val (.int er), .val (.ref b1), .val (.int (0 : Int32)), .unset, .unset, .unset, .unset, .unset, .unset] [(.int (0 : Int32))])) _
      refine XS.ifYes X5.here hx rfl (pc0 := 100) (pc' := 107) rfl (hb hby at_100) rfl ((if0 _ _).trans (teq (rfl : (0 : Int32) = (0 : Int32))).1) (by decide) (by decide) ?_
      show Steps p.tables e below (T5.setTop (mkF m 107 #[.val (.int p0), .val (.int p1), .val (.int p2), .val (.int (0 : Int32)), .val (.int mo), .val (.int md), .val (.int er), .val (.ref b1), .val (.int (0 : Int32)), .unset, .unset, .unset, .unset, .unset, .unset] [])) _
      refine XS.iconst X5.here hx rfl (hb hby at_107) ?_
      show Steps p.tables e below (T5.setTop (mkF m 108 #[.val (.int p0), .val (.int p1), .val (.int p2), .val (.int (0 : Int32)), .val (.int mo), .val (.int md), .val (.int er), .val (.ref b1), .val (.int (0 : Int32)), .unset, .unset, .unset, .unset, .unset, .unset] [(.int (0 : Int32))])) _
      refine XS.istore X5.here hx rfl (hb hby at_108) rfl (l' := #[.val (.int p0), .val (.int p1), .val (.int p2), .val (.int (0 : Int32)), .val (.int mo), .val (.int md), .val (.int er), .val (.ref b1), .val (.int (0 : Int32)), .val (.int (0 : Int32)), .unset, .unset, .unset, .unset, .unset]) rfl ?_
      exact k
    rcases hb_mo with hmo | hmo
    · skip
      obtain ⟨rfl, -⟩ := hmo
      have pre85 : ∀ t, Steps p.tables e below (T5.setTop (mkF m 135 #[.val (.int p0), .val (.int p1), .val (.int p2), .val (.int (0 : Int32)), .val (.int (1 : Int32)), .val (.int md), .val (.int er), .val (.ref b1), .val (.int (0 : Int32)), .val (.int (0 : Int32)), .unset, .unset, .unset, .unset, .unset] [])) t → Steps p.tables e below (s₁.setTop (entryFrame m #[(.int p0), (.int p1), (.int p2)] maxLocals)) t := by
        intro t k
        refine pre84 t ?_
        show Steps p.tables e below (T5.setTop (mkF m 110 #[.val (.int p0), .val (.int p1), .val (.int p2), .val (.int (0 : Int32)), .val (.int (1 : Int32)), .val (.int md), .val (.int er), .val (.ref b1), .val (.int (0 : Int32)), .val (.int (0 : Int32)), .unset, .unset, .unset, .unset, .unset] [])) _
        refine XS.iload X5.here hx rfl (hb hby at_110) rfl ?_
        show Steps p.tables e below (T5.setTop (mkF m 112 #[.val (.int p0), .val (.int p1), .val (.int p2), .val (.int (0 : Int32)), .val (.int (1 : Int32)), .val (.int md), .val (.int er), .val (.ref b1), .val (.int (0 : Int32)), .val (.int (0 : Int32)), .unset, .unset, .unset, .unset, .unset] [(.int (1 : Int32))])) _
        refine XS.ifNo X5.here hx rfl (hb hby at_112) rfl ((if0 _ _).trans (feq (by decide : ¬ ((1 : Int32) = (0 : Int32)))).1) ?_
        show Steps p.tables e below (T5.setTop (mkF m 115 #[.val (.int p0), .val (.int p1), .val (.int p2), .val (.int (0 : Int32)), .val (.int (1 : Int32)), .val (.int md), .val (.int er), .val (.ref b1), .val (.int (0 : Int32)), .val (.int (0 : Int32)), .unset, .unset, .unset, .unset, .unset] [])) _
        refine XS.iload X5.here hx rfl (hb hby at_115) rfl ?_
        show Steps p.tables e below (T5.setTop (mkF m 117 #[.val (.int p0), .val (.int p1), .val (.int p2), .val (.int (0 : Int32)), .val (.int (1 : Int32)), .val (.int md), .val (.int er), .val (.ref b1), .val (.int (0 : Int32)), .val (.int (0 : Int32)), .unset, .unset, .unset, .unset, .unset] [(.int (0 : Int32))])) _
        refine XS.ifYes X5.here hx rfl (pc0 := 117) (pc' := 135) rfl (hb hby at_117) rfl ((if0 _ _).trans (teq (rfl : (0 : Int32) = (0 : Int32))).1) (by decide) (by decide) ?_
        exact k
      obtain ⟨cq71, kq71, q71a, q71b, q71c⟩ := isOf hZ rfl E5q
      obtain ⟨_, _, ⟨T71, L71, k71, n71⟩, -, X71, ⟨Lc71, hQ71, l71, y71, z71⟩, st71⟩ := X5.virtualBack hx (y := (⟨"com/example/tideline/tideline/session/FetcherSession", "startOver", "(S)Z"⟩ : MethodName)) (z := (⟨"com/example/tideline/tideline/session/FetcherSession", "startOver", "(S)Z"⟩ : MethodName)) hown (mvT hZ (hw _ (List.mem_of_getElem? (i := 81) rfl))) (mvT hZ (hw _ (List.mem_of_getElem? (i := 82) rfl))) (notFace_of_selects (args := #[]) (mvT hZ (hw _ (List.mem_of_getElem? (i := 84) rfl)))) (mvT hZ (hw _ (List.mem_of_getElem? (i := 84) rfl))) (mvT hZ (hw _ (List.mem_of_getElem? (i := 83) rfl))) (by decide) (backOf (W := 0) (rm10z l Z a0 hw [] b1 er (0 : Int32) (0 : Int32) l2_5 f2_5 (.ref xa3) (.ref rq5) T5.heap n0 Zs6 Fepoch_5q Fheld_5q Flisting_5q Fforgetting_5q Fid_5q Fpending_5q E5q g_b1 rfl) hZ (hw _ (List.mem_of_getElem? (i := 85) rfl)) (hw _ (List.mem_of_getElem? (i := 2) rfl)) (by decide) (by decide)) q71a q71c (g := (mkF m 139 #[.val (.int p0), .val (.int p1), .val (.int p2), .val (.int (0 : Int32)), .val (.int (1 : Int32)), .val (.int md), .val (.int er), .val (.ref b1), .val (.int (0 : Int32)), .val (.int (0 : Int32)), .unset, .unset, .unset, .unset, .unset] [(.int er), (.ref b1)])) rfl (by rw [hml]; rfl) (Steps.refl _) (argsL := [(.int er)]) (rest := []) (lenOf pd_9 rfl) rfl (by show 2 * 0 + _ ≤ _; exact Nat.le_of_eq rfl) (hb hby at_139) (fun _ _ => ⟨rfl, rfl, (by decide : 14 + 0 ≤ _), (by decide : 94 + 0 ≤ _)⟩)
      dsimp only [Pt.U, Pt.locs, Pt.cells, Pt.slots] at X71 l71 y71 z71 st71 hQ71
      subst l71 y71 z71
      obtain ⟨rfl, N71q, K71q, E71q, F0_71q, F1_71q, F2_71q, F3_71q, F4_71q, F5_71q⟩ := hQ71
      have N71 := Fr.app N5 N71q
      have E_b1_71 := E5q.keep K71q
      have E_rq5_71 := Er5q.keep K71q
      have F_rq5_sessionId_71 := RsessionId_5q.keep K71q (ninS ne_rq5 nin0)
      have F_rq5_epoch_71 := Repoch_5q.keep K71q (ninS ne_rq5 nin0)
      have F_rq5_listed_71 := Rlisted_5q.keep K71q (ninS ne_rq5 nin0)
      have F_rq5_forgotten_71 := Rforgotten_5q.keep K71q (ninS ne_rq5 nin0)
      have P_l2_5_71 := Pl5q.keep K71q (allS hlt5 all0)
      have P_f2_5_71 := Pf5q.keep K71q (allS hlt5 all0)
      have Zs72 := Nat.le_trans Zs6 K71q.1
      have pre86 : ∀ t, Steps p.tables e below (T71.setTop (mkF m 144 #[.val (.int p0), .val (.int p1), .val (.int p2), .val (.int (0 : Int32)), .val (.int (1 : Int32)), .val (.int md), .val (.int er), .val (.ref b1), .val (.int (0 : Int32)), .val (.int (0 : Int32)), .val (.int (0 : Int32)), .unset, .unset, .unset, .unset] [])) t → Steps p.tables e below (s₁.setTop (entryFrame m #[(.int p0), (.int p1), (.int p2)] maxLocals)) t := by
        intro t k
        refine pre85 t ?_
        show Steps p.tables e below (T5.setTop (mkF m 135 #[.val (.int p0), .val (.int p1), .val (.int p2), .val (.int (0 : Int32)), .val (.int (1 : Int32)), .val (.int md), .val (.int er), .val (.ref b1), .val (.int (0 : Int32)), .val (.int (0 : Int32)), .unset, .unset, .unset, .unset, .unset] [])) _
        refine XS.aload X5.here hx rfl (hb hby at_135) rfl rfl ?_
        show Steps p.tables e below (T5.setTop (mkF m 137 #[.val (.int p0), .val (.int p1), .val (.int p2), .val (.int (0 : Int32)), .val (.int (1 : Int32)), .val (.int md), .val (.int er), .val (.ref b1), .val (.int (0 : Int32)), .val (.int (0 : Int32)), .unset, .unset, .unset, .unset, .unset] [(.ref b1)])) _
        refine XS.iload X5.here hx rfl (hb hby at_137) rfl ?_
        show Steps p.tables e below (T5.setTop (mkF m 139 #[.val (.int p0), .val (.int p1), .val (.int p2), .val (.int (0 : Int32)), .val (.int (1 : Int32)), .val (.int md), .val (.int er), .val (.ref b1), .val (.int (0 : Int32)), .val (.int (0 : Int32)), .unset, .unset, .unset, .unset, .unset] [(.int er), (.ref b1)])) _
        refine st71.trans ?_
        show Steps p.tables e below (T71.setTop (mkF m 142 #[.val (.int p0), .val (.int p1), .val (.int p2), .val (.int (0 : Int32)), .val (.int (1 : Int32)), .val (.int md), .val (.int er), .val (.ref b1), .val (.int (0 : Int32)), .val (.int (0 : Int32)), .unset, .unset, .unset, .unset, .unset] [(.int (0 : Int32))])) _
        refine XS.istore X71.here hx rfl (hb hby at_142) rfl (l' := #[.val (.int p0), .val (.int p1), .val (.int p2), .val (.int (0 : Int32)), .val (.int (1 : Int32)), .val (.int md), .val (.int er), .val (.ref b1), .val (.int (0 : Int32)), .val (.int (0 : Int32)), .val (.int (0 : Int32)), .unset, .unset, .unset, .unset]) rfl ?_
        exact k
      have pre87 : ∀ t, Steps p.tables e below (T71.setTop (mkF m 170 #[.val (.int p0), .val (.int p1), .val (.int p2), .val (.int (0 : Int32)), .val (.int (1 : Int32)), .val (.int md), .val (.int er), .val (.ref b1), .val (.int (0 : Int32)), .val (.int (0 : Int32)), .val (.int (0 : Int32)), .val (.int (0 : Int32)), .unset, .unset, .unset] [])) t → Steps p.tables e below (s₁.setTop (entryFrame m #[(.int p0), (.int p1), (.int p2)] maxLocals)) t := by
        intro t k
        refine pre86 t ?_
        show Steps p.tables e below (T71.setTop (mkF m 144 #[.val (.int p0), .val (.int p1), .val (.int p2), .val (.int (0 : Int32)), .val (.int (1 : Int32)), .val (.int md), .val (.int er), .val (.ref b1), .val (.int (0 : Int32)), .val (.int (0 : Int32)), .val (.int (0 : Int32)), .unset, .unset, .unset, .unset] [])) _
        refine XS.iload X71.here hx rfl (hb hby at_144) rfl ?_
        show Steps p.tables e below (T71.setTop (mkF m 146 #[.val (.int p0), .val (.int p1), .val (.int p2), .val (.int (0 : Int32)), .val (.int (1 : Int32)), .val (.int md), .val (.int er), .val (.ref b1), .val (.int (0 : Int32)), .val (.int (0 : Int32)), .val (.int (0 : Int32)), .unset, .unset, .unset, .unset] [(.int (0 : Int32))])) _
        refine XS.ifYes X71.here hx rfl (pc0 := 146) (pc' := 167) rfl (hb hby at_146) rfl ((if0 _ _).trans (teq (rfl : (0 : Int32) = (0 : Int32))).1) (by decide) (by decide) ?_
        show Steps p.tables e below (T71.setTop (mkF m 167 #[.val (.int p0), .val (.int p1), .val (.int p2), .val (.int (0 : Int32)), .val (.int (1 : Int32)), .val (.int md), .val (.int er), .val (.ref b1), .val (.int (0 : Int32)), .val (.int (0 : Int32)), .val (.int (0 : Int32)), .unset, .unset, .unset, .unset] [])) _
        refine XS.iconst X71.here hx rfl (hb hby at_167) ?_
        show Steps p.tables e below (T71.setTop (mkF m 168 #[.val (.int p0), .val (.int p1), .val (.int p2), .val (.int (0 : Int32)), .val (.int (1 : Int32)), .val (.int md), .val (.int er), .val (.ref b1), .val (.int (0 : Int32)), .val (.int (0 : Int32)), .val (.int (0 : Int32)), .unset, .unset, .unset, .unset] [(.int (0 : Int32))])) _
        refine XS.istore X71.here hx rfl (hb hby at_168) rfl (l' := #[.val (.int p0), .val (.int p1), .val (.int p2), .val (.int (0 : Int32)), .val (.int (1 : Int32)), .val (.int md), .val (.int er), .val (.ref b1), .val (.int (0 : Int32)), .val (.int (0 : Int32)), .val (.int (0 : Int32)), .val (.int (0 : Int32)), .unset, .unset, .unset]) rfl ?_
        exact k
      have pre88 : ∀ t, Steps p.tables e below (T71.setTop (mkF m 194 #[.val (.int p0), .val (.int p1), .val (.int p2), .val (.int (0 : Int32)), .val (.int (1 : Int32)), .val (.int md), .val (.int er), .val (.ref b1), .val (.int (0 : Int32)), .val (.int (0 : Int32)), .val (.int (0 : Int32)), .val (.int (0 : Int32)), .val (.int (0 : Int32)), .unset, .unset] [])) t → Steps p.tables e below (s₁.setTop (entryFrame m #[(.int p0), (.int p1), (.int p2)] maxLocals)) t := by
        intro t k
        refine pre87 t ?_
        show Steps p.tables e below (T71.setTop (mkF m 170 #[.val (.int p0), .val (.int p1), .val (.int p2), .val (.int (0 : Int32)), .val (.int (1 : Int32)), .val (.int md), .val (.int er), .val (.ref b1), .val (.int (0 : Int32)), .val (.int (0 : Int32)), .val (.int (0 : Int32)), .val (.int (0 : Int32)), .unset, .unset, .unset] [])) _
        refine XS.iload X71.here hx rfl (hb hby at_170) rfl ?_
        show Steps p.tables e below (T71.setTop (mkF m 172 #[.val (.int p0), .val (.int p1), .val (.int p2), .val (.int (0 : Int32)), .val (.int (1 : Int32)), .val (.int md), .val (.int er), .val (.ref b1), .val (.int (0 : Int32)), .val (.int (0 : Int32)), .val (.int (0 : Int32)), .val (.int (0 : Int32)), .unset, .unset, .unset] [(.int (0 : Int32))])) _
        refine XS.ifYes X71.here hx rfl (pc0 := 172) (pc' := 191) rfl (hb hby at_172) rfl ((if0 _ _).trans (teq (rfl : (0 : Int32) = (0 : Int32))).1) (by decide) (by decide) ?_
        show Steps p.tables e below (T71.setTop (mkF m 191 #[.val (.int p0), .val (.int p1), .val (.int p2), .val (.int (0 : Int32)), .val (.int (1 : Int32)), .val (.int md), .val (.int er), .val (.ref b1), .val (.int (0 : Int32)), .val (.int (0 : Int32)), .val (.int (0 : Int32)), .val (.int (0 : Int32)), .unset, .unset, .unset] [])) _
        refine XS.iconst X71.here hx rfl (hb hby at_191) ?_
        show Steps p.tables e below (T71.setTop (mkF m 192 #[.val (.int p0), .val (.int p1), .val (.int p2), .val (.int (0 : Int32)), .val (.int (1 : Int32)), .val (.int md), .val (.int er), .val (.ref b1), .val (.int (0 : Int32)), .val (.int (0 : Int32)), .val (.int (0 : Int32)), .val (.int (0 : Int32)), .unset, .unset, .unset] [(.int (0 : Int32))])) _
        refine XS.istore X71.here hx rfl (hb hby at_192) rfl (l' := #[.val (.int p0), .val (.int p1), .val (.int p2), .val (.int (0 : Int32)), .val (.int (1 : Int32)), .val (.int md), .val (.int er), .val (.ref b1), .val (.int (0 : Int32)), .val (.int (0 : Int32)), .val (.int (0 : Int32)), .val (.int (0 : Int32)), .val (.int (0 : Int32)), .unset, .unset]) rfl ?_
        exact k
      have pre89 : ∀ t, Steps p.tables e below (T71.setTop (mkF m 207 #[.val (.int p0), .val (.int p1), .val (.int p2), .val (.int (0 : Int32)), .val (.int (1 : Int32)), .val (.int md), .val (.int er), .val (.ref b1), .val (.int (0 : Int32)), .val (.int (0 : Int32)), .val (.int (0 : Int32)), .val (.int (0 : Int32)), .val (.int (0 : Int32)), .val (.int (0 : Int32)), .unset] [])) t → Steps p.tables e below (s₁.setTop (entryFrame m #[(.int p0), (.int p1), (.int p2)] maxLocals)) t := by
        intro t k
        refine pre88 t ?_
        show Steps p.tables e below (T71.setTop (mkF m 194 #[.val (.int p0), .val (.int p1), .val (.int p2), .val (.int (0 : Int32)), .val (.int (1 : Int32)), .val (.int md), .val (.int er), .val (.ref b1), .val (.int (0 : Int32)), .val (.int (0 : Int32)), .val (.int (0 : Int32)), .val (.int (0 : Int32)), .val (.int (0 : Int32)), .unset, .unset] [])) _
        refine XS.iload X71.here hx rfl (hb hby at_194) rfl ?_
        show Steps p.tables e below (T71.setTop (mkF m 196 #[.val (.int p0), .val (.int p1), .val (.int p2), .val (.int (0 : Int32)), .val (.int (1 : Int32)), .val (.int md), .val (.int er), .val (.ref b1), .val (.int (0 : Int32)), .val (.int (0 : Int32)), .val (.int (0 : Int32)), .val (.int (0 : Int32)), .val (.int (0 : Int32)), .unset, .unset] [(.int (0 : Int32))])) _
        refine XS.ifYes X71.here hx rfl (pc0 := 196) (pc' := 203) rfl (hb hby at_196) rfl ((if0 _ _).trans (teq (rfl : (0 : Int32) = (0 : Int32))).1) (by decide) (by decide) ?_
        show Steps p.tables e below (T71.setTop (mkF m 203 #[.val (.int p0), .val (.int p1), .val (.int p2), .val (.int (0 : Int32)), .val (.int (1 : Int32)), .val (.int md), .val (.int er), .val (.ref b1), .val (.int (0 : Int32)), .val (.int (0 : Int32)), .val (.int (0 : Int32)), .val (.int (0 : Int32)), .val (.int (0 : Int32)), .unset, .unset] [])) _
        refine XS.iload X71.here hx rfl (hb hby at_203) rfl ?_
        show Steps p.tables e below (T71.setTop (mkF m 205 #[.val (.int p0), .val (.int p1), .val (.int p2), .val (.int (0 : Int32)), .val (.int (1 : Int32)), .val (.int md), .val (.int er), .val (.ref b1), .val (.int (0 : Int32)), .val (.int (0 : Int32)), .val (.int (0 : Int32)), .val (.int (0 : Int32)), .val (.int (0 : Int32)), .unset, .unset] [(.int (0 : Int32))])) _
        refine XS.istore X71.here hx rfl (hb hby at_205) rfl (l' := #[.val (.int p0), .val (.int p1), .val (.int p2), .val (.int (0 : Int32)), .val (.int (1 : Int32)), .val (.int md), .val (.int er), .val (.ref b1), .val (.int (0 : Int32)), .val (.int (0 : Int32)), .val (.int (0 : Int32)), .val (.int (0 : Int32)), .val (.int (0 : Int32)), .val (.int (0 : Int32)), .unset]) rfl ?_
        exact k
      obtain ⟨cq73, kq73, q73a, q73b, q73c⟩ := isOf hZ rfl E71q
      obtain ⟨_, _, ⟨T73, L73, k73, n73⟩, -, X73, ⟨Lc73, hQ73, l73, y73, z73⟩, st73⟩ := X71.virtualBack hx (y := (⟨"com/example/tideline/tideline/session/FetcherSession", "next", "()Lcom/example/tideline/tideline/session/FetcherSession$Request;"⟩ : MethodName)) (z := (⟨"com/example/tideline/tideline/session/FetcherSession", "next", "()Lcom/example/tideline/tideline/session/FetcherSession$Request;"⟩ : MethodName)) hown (mvT hZ (hw _ (List.mem_of_getElem? (i := 52) rfl))) (mvT hZ (hw _ (List.mem_of_getElem? (i := 53) rfl))) (notFace_of_selects (args := #[]) (mvT hZ (hw _ (List.mem_of_getElem? (i := 55) rfl)))) (mvT hZ (hw _ (List.mem_of_getElem? (i := 55) rfl))) (mvT hZ (hw _ (List.mem_of_getElem? (i := 54) rfl))) (by decide) (backOf (W := 0) (rm7 l Z a0 hw [] b1 (0 : Int32) (0 : Int32) l2_5 f2_5 (.ref xa3) (.ref rq5) T71.heap n0 Zs72 F0_71q F1_71q F2_71q F3_71q F4_71q F5_71q E71q g_b1) hZ (hw _ (List.mem_of_getElem? (i := 56) rfl)) (hw _ (List.mem_of_getElem? (i := 2) rfl)) (by decide) (by decide)) q73a q73c (g := (mkF m 209 #[.val (.int p0), .val (.int p1), .val (.int p2), .val (.int (0 : Int32)), .val (.int (1 : Int32)), .val (.int md), .val (.int er), .val (.ref b1), .val (.int (0 : Int32)), .val (.int (0 : Int32)), .val (.int (0 : Int32)), .val (.int (0 : Int32)), .val (.int (0 : Int32)), .val (.int (0 : Int32)), .unset] [(.ref b1)])) rfl (by rw [hml]; rfl) (Steps.refl _) (argsL := []) (rest := []) (lenOf pd_7 rfl) rfl (by show 2 * 0 + _ ≤ _; exact Nat.le_of_eq rfl) (hb hby at_209) (fun _ _ => ⟨rfl, rfl, (by decide : 14 + 7 ≤ _), (by decide : 94 + 46 ≤ _)⟩)
      dsimp only [Pt.U, Pt.locs, Pt.cells, Pt.slots] at X73 l73 y73 z73 st73 hQ73
      subst l73 y73 z73
      obtain ⟨rq73, l2_73, f2_73, x3_73, rfl, N73q, K73q, E73q, Fid_73q, Fepoch_73q, Fheld_73q, Fpending_73q, Flisting_73q, Fforgetting_73q, Pl73q, Pf73q, Er73q, ge73q, RsessionId_73q, Repoch_73q, Rlisted_73q, Rforgotten_73q, hx73q⟩ := hQ73
      have N73 := Fr.app N71 N73q
      have hlt73 : b1 < T71.heap.size := E71q.lt
      have E_b1_73 := E71q.keep K73q
      have P_l2_5_73 := P_l2_5_71.keep K73q (allS hlt5 all0)
      have P_f2_5_73 := P_f2_5_71.keep K73q (allS hlt5 all0)
      have Zs74 := Nat.le_trans Zs72 K73q.1
      have ne_rq73 : rq73 ≠ b1 := fun q => Nat.lt_irrefl _ (Nat.lt_of_lt_of_le (q ▸ hlt73) ge73q)
      have pre90 : ∀ t, Steps p.tables e below (T73.setTop (mkF m 214 #[.val (.int p0), .val (.int p1), .val (.int p2), .val (.int (0 : Int32)), .val (.int (1 : Int32)), .val (.int md), .val (.int er), .val (.ref b1), .val (.int (0 : Int32)), .val (.int (0 : Int32)), .val (.int (0 : Int32)), .val (.int (0 : Int32)), .val (.int (0 : Int32)), .val (.int (0 : Int32)), .val (.ref rq73)] [])) t → Steps p.tables e below (s₁.setTop (entryFrame m #[(.int p0), (.int p1), (.int p2)] maxLocals)) t := by
        intro t k
        refine pre89 t ?_
        show Steps p.tables e below (T71.setTop (mkF m 207 #[.val (.int p0), .val (.int p1), .val (.int p2), .val (.int (0 : Int32)), .val (.int (1 : Int32)), .val (.int md), .val (.int er), .val (.ref b1), .val (.int (0 : Int32)), .val (.int (0 : Int32)), .val (.int (0 : Int32)), .val (.int (0 : Int32)), .val (.int (0 : Int32)), .val (.int (0 : Int32)), .unset] [])) _
        refine XS.aload X71.here hx rfl (hb hby at_207) rfl rfl ?_
        show Steps p.tables e below (T71.setTop (mkF m 209 #[.val (.int p0), .val (.int p1), .val (.int p2), .val (.int (0 : Int32)), .val (.int (1 : Int32)), .val (.int md), .val (.int er), .val (.ref b1), .val (.int (0 : Int32)), .val (.int (0 : Int32)), .val (.int (0 : Int32)), .val (.int (0 : Int32)), .val (.int (0 : Int32)), .val (.int (0 : Int32)), .unset] [(.ref b1)])) _
        refine st73.trans ?_
        show Steps p.tables e below (T73.setTop (mkF m 212 #[.val (.int p0), .val (.int p1), .val (.int p2), .val (.int (0 : Int32)), .val (.int (1 : Int32)), .val (.int md), .val (.int er), .val (.ref b1), .val (.int (0 : Int32)), .val (.int (0 : Int32)), .val (.int (0 : Int32)), .val (.int (0 : Int32)), .val (.int (0 : Int32)), .val (.int (0 : Int32)), .unset] [(.ref rq73)])) _
        refine XS.astore X73.here hx rfl (hb hby at_212) rfl rfl (l' := #[.val (.int p0), .val (.int p1), .val (.int p2), .val (.int (0 : Int32)), .val (.int (1 : Int32)), .val (.int md), .val (.int er), .val (.ref b1), .val (.int (0 : Int32)), .val (.int (0 : Int32)), .val (.int (0 : Int32)), .val (.int (0 : Int32)), .val (.int (0 : Int32)), .val (.int (0 : Int32)), .val (.ref rq73)]) rfl ?_
        exact k
      have pre91 : ∀ t, Steps p.tables e below (T73.setTop (mkF m 221 #[.val (.int p0), .val (.int p1), .val (.int p2), .val (.int (0 : Int32)), .val (.int (1 : Int32)), .val (.int md), .val (.int er), .val (.ref b1), .val (.int (0 : Int32)), .val (.int (0 : Int32)), .val (.int (0 : Int32)), .val (.int (0 : Int32)), .val (.int (0 : Int32)), .val (.int (0 : Int32)), .val (.ref rq73)] [])) t → Steps p.tables e below (s₁.setTop (entryFrame m #[(.int p0), (.int p1), (.int p2)] maxLocals)) t := by
        intro t k
        refine pre90 t ?_
        show Steps p.tables e below (T73.setTop (mkF m 214 #[.val (.int p0), .val (.int p1), .val (.int p2), .val (.int (0 : Int32)), .val (.int (1 : Int32)), .val (.int md), .val (.int er), .val (.ref b1), .val (.int (0 : Int32)), .val (.int (0 : Int32)), .val (.int (0 : Int32)), .val (.int (0 : Int32)), .val (.int (0 : Int32)), .val (.int (0 : Int32)), .val (.ref rq73)] [])) _
        refine XS.iload X73.here hx rfl (hb hby at_214) rfl ?_
        show Steps p.tables e below (T73.setTop (mkF m 216 #[.val (.int p0), .val (.int p1), .val (.int p2), .val (.int (0 : Int32)), .val (.int (1 : Int32)), .val (.int md), .val (.int er), .val (.ref b1), .val (.int (0 : Int32)), .val (.int (0 : Int32)), .val (.int (0 : Int32)), .val (.int (0 : Int32)), .val (.int (0 : Int32)), .val (.int (0 : Int32)), .val (.ref rq73)] [(.int (0 : Int32))])) _
        refine XS.iload X73.here hx rfl (hb hby at_216) rfl ?_
        show Steps p.tables e below (T73.setTop (mkF m 218 #[.val (.int p0), .val (.int p1), .val (.int p2), .val (.int (0 : Int32)), .val (.int (1 : Int32)), .val (.int md), .val (.int er), .val (.ref b1), .val (.int (0 : Int32)), .val (.int (0 : Int32)), .val (.int (0 : Int32)), .val (.int (0 : Int32)), .val (.int (0 : Int32)), .val (.int (0 : Int32)), .val (.ref rq73)] [(.int (0 : Int32)), (.int (0 : Int32))])) _
        refine XS.icmpNo X73.here hx rfl (hb hby at_218) rfl (teq (rfl : (0 : Int32) = (0 : Int32))).2 ?_
        exact k
      obtain ⟨cq75, kq75, q75a, q75b, q75c⟩ := isOf hZ rfl E73q
      obtain ⟨_, _, ⟨T75, L75, k75, n75⟩, -, X75, ⟨Lc75, hQ75, l75, y75, z75⟩, st75⟩ := X73.virtualBack hx (y := (⟨"com/example/tideline/tideline/session/FetcherSession", "incremental", "()Z"⟩ : MethodName)) (z := (⟨"com/example/tideline/tideline/session/FetcherSession", "incremental", "()Z"⟩ : MethodName)) hown (mvT hZ (hw _ (List.mem_of_getElem? (i := 86) rfl))) (mvT hZ (hw _ (List.mem_of_getElem? (i := 87) rfl))) (notFace_of_selects (args := #[]) (mvT hZ (hw _ (List.mem_of_getElem? (i := 89) rfl)))) (mvT hZ (hw _ (List.mem_of_getElem? (i := 89) rfl))) (mvT hZ (hw _ (List.mem_of_getElem? (i := 88) rfl))) (by decide) (backOf (W := 0) (rm11z l Z a0 hw [] b1 (0 : Int32) T73.heap n0 Zs74 Fepoch_73q rfl) hZ (hw _ (List.mem_of_getElem? (i := 90) rfl)) (hw _ (List.mem_of_getElem? (i := 2) rfl)) (by decide) (by decide)) q75a q75c (g := (mkF m 223 #[.val (.int p0), .val (.int p1), .val (.int p2), .val (.int (0 : Int32)), .val (.int (1 : Int32)), .val (.int md), .val (.int er), .val (.ref b1), .val (.int (0 : Int32)), .val (.int (0 : Int32)), .val (.int (0 : Int32)), .val (.int (0 : Int32)), .val (.int (0 : Int32)), .val (.int (0 : Int32)), .val (.ref rq73)] [(.ref b1)])) rfl (by rw [hml]; rfl) (Steps.refl _) (argsL := []) (rest := []) (lenOf pd_10 rfl) rfl (by show 2 * 0 + _ ≤ _; exact Nat.le_of_eq rfl) (hb hby at_223) (fun _ _ => ⟨rfl, rfl, (by decide : 21 + 0 ≤ _), (by decide : 140 + 0 ≤ _)⟩)
      dsimp only [Pt.U, Pt.locs, Pt.cells, Pt.slots] at X75 l75 y75 z75 st75 hQ75
      subst l75 y75 z75
      obtain ⟨rfl, N75q, e75q⟩ := hQ75
      have N75 := Fr.app N73 N75q
      have pre92 : ∀ t, Steps p.tables e below (T75.setTop (mkF m 228 #[.val (.int p0), .val (.int p1), .val (.int p2), .val (.int (0 : Int32)), .val (.int (1 : Int32)), .val (.int md), .val (.int er), .val (.ref b1), .val (.int (0 : Int32)), .val (.int (0 : Int32)), .val (.int (0 : Int32)), .val (.int (0 : Int32)), .val (.int (0 : Int32)), .val (.int (0 : Int32)), .val (.ref rq73)] [(.int (0 : Int32)), (.int (0 : Int32))])) t → Steps p.tables e below (s₁.setTop (entryFrame m #[(.int p0), (.int p1), (.int p2)] maxLocals)) t := by
        intro t k
        refine pre91 t ?_
        show Steps p.tables e below (T73.setTop (mkF m 221 #[.val (.int p0), .val (.int p1), .val (.int p2), .val (.int (0 : Int32)), .val (.int (1 : Int32)), .val (.int md), .val (.int er), .val (.ref b1), .val (.int (0 : Int32)), .val (.int (0 : Int32)), .val (.int (0 : Int32)), .val (.int (0 : Int32)), .val (.int (0 : Int32)), .val (.int (0 : Int32)), .val (.ref rq73)] [])) _
        refine XS.aload X73.here hx rfl (hb hby at_221) rfl rfl ?_
        show Steps p.tables e below (T73.setTop (mkF m 223 #[.val (.int p0), .val (.int p1), .val (.int p2), .val (.int (0 : Int32)), .val (.int (1 : Int32)), .val (.int md), .val (.int er), .val (.ref b1), .val (.int (0 : Int32)), .val (.int (0 : Int32)), .val (.int (0 : Int32)), .val (.int (0 : Int32)), .val (.int (0 : Int32)), .val (.int (0 : Int32)), .val (.ref rq73)] [(.ref b1)])) _
        refine st75.trans ?_
        show Steps p.tables e below (T75.setTop (mkF m 226 #[.val (.int p0), .val (.int p1), .val (.int p2), .val (.int (0 : Int32)), .val (.int (1 : Int32)), .val (.int md), .val (.int er), .val (.ref b1), .val (.int (0 : Int32)), .val (.int (0 : Int32)), .val (.int (0 : Int32)), .val (.int (0 : Int32)), .val (.int (0 : Int32)), .val (.int (0 : Int32)), .val (.ref rq73)] [(.int (0 : Int32))])) _
        refine XS.iload X75.here hx rfl (hb hby at_226) rfl ?_
        exact k
      have pre93 : ∀ t, Steps p.tables e below (T75.setTop (mkF m 236 #[.val (.int p0), .val (.int p1), .val (.int p2), .val (.int (0 : Int32)), .val (.int (1 : Int32)), .val (.int md), .val (.int er), .val (.ref b1), .val (.int (0 : Int32)), .val (.int (0 : Int32)), .val (.int (0 : Int32)), .val (.int (0 : Int32)), .val (.int (0 : Int32)), .val (.int (0 : Int32)), .val (.ref rq73)] [(.int (0 : Int32)), (.int (0 : Int32))])) t → Steps p.tables e below (s₁.setTop (entryFrame m #[(.int p0), (.int p1), (.int p2)] maxLocals)) t := by
        intro t k
        refine pre92 t ?_
        show Steps p.tables e below (T75.setTop (mkF m 228 #[.val (.int p0), .val (.int p1), .val (.int p2), .val (.int (0 : Int32)), .val (.int (1 : Int32)), .val (.int md), .val (.int er), .val (.ref b1), .val (.int (0 : Int32)), .val (.int (0 : Int32)), .val (.int (0 : Int32)), .val (.int (0 : Int32)), .val (.int (0 : Int32)), .val (.int (0 : Int32)), .val (.ref rq73)] [(.int (0 : Int32)), (.int (0 : Int32))])) _
        refine XS.ifYes X75.here hx rfl (pc0 := 228) (pc' := 235) rfl (hb hby at_228) rfl ((if0 _ _).trans (teq (rfl : (0 : Int32) = (0 : Int32))).1) (by decide) (by decide) ?_
        show Steps p.tables e below (T75.setTop (mkF m 235 #[.val (.int p0), .val (.int p1), .val (.int p2), .val (.int (0 : Int32)), .val (.int (1 : Int32)), .val (.int md), .val (.int er), .val (.ref b1), .val (.int (0 : Int32)), .val (.int (0 : Int32)), .val (.int (0 : Int32)), .val (.int (0 : Int32)), .val (.int (0 : Int32)), .val (.int (0 : Int32)), .val (.ref rq73)] [(.int (0 : Int32))])) _
        refine XS.iconst X75.here hx rfl (hb hby at_235) ?_
        exact k
      obtain ⟨cq76, kq76, q76a, q76b, q76c⟩ := isOf hZ e75q Er73q
      obtain ⟨_, _, ⟨T76, L76, k76, n76⟩, -, X76, ⟨Lc76, hQ76, l76, y76, z76⟩, st76⟩ := X75.virtualBack hx (y := (⟨"com/example/tideline/tideline/session/FetcherSession$Request", "sessionId", "()I"⟩ : MethodName)) (z := (⟨"com/example/tideline/tideline/session/FetcherSession$Request", "sessionId", "()I"⟩ : MethodName)) hown (mvT hZ (hw _ (List.mem_of_getElem? (i := 91) rfl))) (mvT hZ (hw _ (List.mem_of_getElem? (i := 92) rfl))) (notFace_of_selects (args := #[]) (mvT hZ (hw _ (List.mem_of_getElem? (i := 94) rfl)))) (mvT hZ (hw _ (List.mem_of_getElem? (i := 94) rfl))) (mvT hZ (hw _ (List.mem_of_getElem? (i := 93) rfl))) (by decide) (backOf (W := 0) (rm12 l Z a0 hw [] rq73 (0 : Int32) T73.heap n0 Zs74 RsessionId_73q) hZ (hw _ (List.mem_of_getElem? (i := 95) rfl)) (hw _ (List.mem_of_getElem? (i := 59) rfl)) (by decide) (by decide)) q76a q76c (g := (mkF m 241 #[.val (.int p0), .val (.int p1), .val (.int p2), .val (.int (0 : Int32)), .val (.int (1 : Int32)), .val (.int md), .val (.int er), .val (.ref b1), .val (.int (0 : Int32)), .val (.int (0 : Int32)), .val (.int (0 : Int32)), .val (.int (0 : Int32)), .val (.int (0 : Int32)), .val (.int (0 : Int32)), .val (.ref rq73)] [(.ref rq73)])) rfl (by rw [hml]; rfl) (Steps.refl _) (argsL := []) (rest := []) (lenOf pd_11 rfl) rfl (by show 2 * 0 + _ ≤ _; exact Nat.le_of_eq rfl) (hb hby at_241) (fun _ _ => ⟨rfl, e75q, (by decide : 21 + 0 ≤ _), (by decide : 140 + 0 ≤ _)⟩)
      dsimp only [Pt.U, Pt.locs, Pt.cells, Pt.slots] at X76 l76 y76 z76 st76 hQ76
      subst l76 y76 z76
      obtain ⟨rfl, N76q, e76q⟩ := hQ76
      have N76 := Fr.app N75 N76q
      obtain ⟨cq77, kq77, q77a, q77b, q77c⟩ := isOf hZ e76q Er73q
      obtain ⟨_, _, ⟨T77, L77, k77, n77⟩, -, X77, ⟨Lc77, hQ77, l77, y77, z77⟩, st77⟩ := X76.virtualBack hx (y := (⟨"com/example/tideline/tideline/session/FetcherSession$Request", "epoch", "()I"⟩ : MethodName)) (z := (⟨"com/example/tideline/tideline/session/FetcherSession$Request", "epoch", "()I"⟩ : MethodName)) hown (mvT hZ (hw _ (List.mem_of_getElem? (i := 96) rfl))) (mvT hZ (hw _ (List.mem_of_getElem? (i := 97) rfl))) (notFace_of_selects (args := #[]) (mvT hZ (hw _ (List.mem_of_getElem? (i := 99) rfl)))) (mvT hZ (hw _ (List.mem_of_getElem? (i := 99) rfl))) (mvT hZ (hw _ (List.mem_of_getElem? (i := 98) rfl))) (by decide) (backOf (W := 0) (rm13 l Z a0 hw [] rq73 (0 : Int32) T73.heap n0 Zs74 Repoch_73q) hZ (hw _ (List.mem_of_getElem? (i := 100) rfl)) (hw _ (List.mem_of_getElem? (i := 59) rfl)) (by decide) (by decide)) q77a q77c (g := (mkF m 251 #[.val (.int p0), .val (.int p1), .val (.int p2), .val (.int (0 : Int32)), .val (.int (1 : Int32)), .val (.int md), .val (.int er), .val (.ref b1), .val (.int (0 : Int32)), .val (.int (0 : Int32)), .val (.int (0 : Int32)), .val (.int (0 : Int32)), .val (.int (0 : Int32)), .val (.int (0 : Int32)), .val (.ref rq73)] [(.ref rq73)])) rfl (by rw [hml]; rfl) (Steps.refl _) (argsL := []) (rest := []) (lenOf pd_11 rfl) rfl (by show 2 * 0 + _ ≤ _; exact Nat.le_of_eq rfl) (hb hby at_251) (fun _ _ => ⟨rfl, e76q, (by decide : 21 + 0 ≤ _), (by decide : 140 + 0 ≤ _)⟩)
      dsimp only [Pt.U, Pt.locs, Pt.cells, Pt.slots] at X77 l77 y77 z77 st77 hQ77
      subst l77 y77 z77
      obtain ⟨rfl, N77q, e77q⟩ := hQ77
      have N77 := Fr.app N76 N77q
      obtain ⟨fs, hr, hrun, hended, hW, hsame⟩ := X77.leave (v := some (.int (1 : Int32))) (fun h => by rw [Bd.returns] at h; cases h)
      refine ⟨_, _, pre93 _ ?_, hrun, hended, _, _, rfl, ?_, ⟨_, rfl⟩, hW, hsame.mono (by decide) (by decide)⟩
      · show Steps p.tables e below (T75.setTop (mkF m 236 #[.val (.int p0), .val (.int p1), .val (.int p2), .val (.int (0 : Int32)), .val (.int (1 : Int32)), .val (.int md), .val (.int er), .val (.ref b1), .val (.int (0 : Int32)), .val (.int (0 : Int32)), .val (.int (0 : Int32)), .val (.int (0 : Int32)), .val (.int (0 : Int32)), .val (.int (0 : Int32)), .val (.ref rq73)] [(.int (0 : Int32)), (.int (0 : Int32))])) _
        refine XS.icmpNo X75.here hx rfl (hb hby at_236) rfl (teq (rfl : (0 : Int32) = (0 : Int32))).2 ?_
        show Steps p.tables e below (T75.setTop (mkF m 239 #[.val (.int p0), .val (.int p1), .val (.int p2), .val (.int (0 : Int32)), .val (.int (1 : Int32)), .val (.int md), .val (.int er), .val (.ref b1), .val (.int (0 : Int32)), .val (.int (0 : Int32)), .val (.int (0 : Int32)), .val (.int (0 : Int32)), .val (.int (0 : Int32)), .val (.int (0 : Int32)), .val (.ref rq73)] [])) _
        refine XS.aload X75.here hx rfl (hb hby at_239) rfl rfl ?_
        show Steps p.tables e below (T75.setTop (mkF m 241 #[.val (.int p0), .val (.int p1), .val (.int p2), .val (.int (0 : Int32)), .val (.int (1 : Int32)), .val (.int md), .val (.int er), .val (.ref b1), .val (.int (0 : Int32)), .val (.int (0 : Int32)), .val (.int (0 : Int32)), .val (.int (0 : Int32)), .val (.int (0 : Int32)), .val (.int (0 : Int32)), .val (.ref rq73)] [(.ref rq73)])) _
        refine st76.trans ?_
        show Steps p.tables e below (T76.setTop (mkF m 244 #[.val (.int p0), .val (.int p1), .val (.int p2), .val (.int (0 : Int32)), .val (.int (1 : Int32)), .val (.int md), .val (.int er), .val (.ref b1), .val (.int (0 : Int32)), .val (.int (0 : Int32)), .val (.int (0 : Int32)), .val (.int (0 : Int32)), .val (.int (0 : Int32)), .val (.int (0 : Int32)), .val (.ref rq73)] [(.int (0 : Int32))])) _
        refine XS.iload X76.here hx rfl (hb hby at_244) rfl ?_
        show Steps p.tables e below (T76.setTop (mkF m 246 #[.val (.int p0), .val (.int p1), .val (.int p2), .val (.int (0 : Int32)), .val (.int (1 : Int32)), .val (.int md), .val (.int er), .val (.ref b1), .val (.int (0 : Int32)), .val (.int (0 : Int32)), .val (.int (0 : Int32)), .val (.int (0 : Int32)), .val (.int (0 : Int32)), .val (.int (0 : Int32)), .val (.ref rq73)] [(.int (0 : Int32)), (.int (0 : Int32))])) _
        refine XS.icmpNo X76.here hx rfl (hb hby at_246) rfl (teq (rfl : (0 : Int32) = (0 : Int32))).2 ?_
        show Steps p.tables e below (T76.setTop (mkF m 249 #[.val (.int p0), .val (.int p1), .val (.int p2), .val (.int (0 : Int32)), .val (.int (1 : Int32)), .val (.int md), .val (.int er), .val (.ref b1), .val (.int (0 : Int32)), .val (.int (0 : Int32)), .val (.int (0 : Int32)), .val (.int (0 : Int32)), .val (.int (0 : Int32)), .val (.int (0 : Int32)), .val (.ref rq73)] [])) _
        refine XS.aload X76.here hx rfl (hb hby at_249) rfl rfl ?_
        show Steps p.tables e below (T76.setTop (mkF m 251 #[.val (.int p0), .val (.int p1), .val (.int p2), .val (.int (0 : Int32)), .val (.int (1 : Int32)), .val (.int md), .val (.int er), .val (.ref b1), .val (.int (0 : Int32)), .val (.int (0 : Int32)), .val (.int (0 : Int32)), .val (.int (0 : Int32)), .val (.int (0 : Int32)), .val (.int (0 : Int32)), .val (.ref rq73)] [(.ref rq73)])) _
        refine st77.trans ?_
        show Steps p.tables e below (T77.setTop (mkF m 254 #[.val (.int p0), .val (.int p1), .val (.int p2), .val (.int (0 : Int32)), .val (.int (1 : Int32)), .val (.int md), .val (.int er), .val (.ref b1), .val (.int (0 : Int32)), .val (.int (0 : Int32)), .val (.int (0 : Int32)), .val (.int (0 : Int32)), .val (.int (0 : Int32)), .val (.int (0 : Int32)), .val (.ref rq73)] [(.int (0 : Int32))])) _
        refine XS.iload X77.here hx rfl (hb hby at_254) rfl ?_
        show Steps p.tables e below (T77.setTop (mkF m 256 #[.val (.int p0), .val (.int p1), .val (.int p2), .val (.int (0 : Int32)), .val (.int (1 : Int32)), .val (.int md), .val (.int er), .val (.ref b1), .val (.int (0 : Int32)), .val (.int (0 : Int32)), .val (.int (0 : Int32)), .val (.int (0 : Int32)), .val (.int (0 : Int32)), .val (.int (0 : Int32)), .val (.ref rq73)] [(.int (0 : Int32)), (.int (0 : Int32))])) _
        refine XS.icmpNo X77.here hx rfl (hb hby at_256) rfl (teq (rfl : (0 : Int32) = (0 : Int32))).2 ?_
        show Steps p.tables e below (T77.setTop (mkF m 259 #[.val (.int p0), .val (.int p1), .val (.int p2), .val (.int (0 : Int32)), .val (.int (1 : Int32)), .val (.int md), .val (.int er), .val (.ref b1), .val (.int (0 : Int32)), .val (.int (0 : Int32)), .val (.int (0 : Int32)), .val (.int (0 : Int32)), .val (.int (0 : Int32)), .val (.int (0 : Int32)), .val (.ref rq73)] [])) _
        refine XS.iconst X77.here hx rfl (hb hby at_259) ?_
        show Steps p.tables e below (T77.setTop (mkF m 260 #[.val (.int p0), .val (.int p1), .val (.int p2), .val (.int (0 : Int32)), .val (.int (1 : Int32)), .val (.int md), .val (.int er), .val (.ref b1), .val (.int (0 : Int32)), .val (.int (0 : Int32)), .val (.int (0 : Int32)), .val (.int (0 : Int32)), .val (.int (0 : Int32)), .val (.int (0 : Int32)), .val (.ref rq73)] [(.int (1 : Int32))])) _
        refine XS.goto X77.here hx rfl (pc0 := 260) (pc' := 264) rfl (hb hby at_260) (by decide) (by decide) ?_
        show Steps p.tables e below (T77.setTop (mkF m 264 #[.val (.int p0), .val (.int p1), .val (.int p2), .val (.int (0 : Int32)), .val (.int (1 : Int32)), .val (.int md), .val (.int er), .val (.ref b1), .val (.int (0 : Int32)), .val (.int (0 : Int32)), .val (.int (0 : Int32)), .val (.int (0 : Int32)), .val (.int (0 : Int32)), .val (.int (0 : Int32)), .val (.ref rq73)] [(.int (1 : Int32))])) _
        exact retN X77 hx (t := .boolean) Bd.returns (by simp) (hb hby at_264) hr
      · show Q0 Z p0 p1 p2 h0 n0 _ T77.heap _
        rw [e77q]
        exact ⟨rfl, N77⟩
    · skip
      obtain ⟨rfl, -⟩ := hmo
      have pre94 : ∀ t, Steps p.tables e below (T5.setTop (mkF m 135 #[.val (.int p0), .val (.int p1), .val (.int p2), .val (.int (0 : Int32)), .val (.int (0 : Int32)), .val (.int md), .val (.int er), .val (.ref b1), .val (.int (0 : Int32)), .val (.int (0 : Int32)), .unset, .unset, .unset, .unset, .unset] [])) t → Steps p.tables e below (s₁.setTop (entryFrame m #[(.int p0), (.int p1), (.int p2)] maxLocals)) t := by
        intro t k
        refine pre84 t ?_
        show Steps p.tables e below (T5.setTop (mkF m 110 #[.val (.int p0), .val (.int p1), .val (.int p2), .val (.int (0 : Int32)), .val (.int (0 : Int32)), .val (.int md), .val (.int er), .val (.ref b1), .val (.int (0 : Int32)), .val (.int (0 : Int32)), .unset, .unset, .unset, .unset, .unset] [])) _
        refine XS.iload X5.here hx rfl (hb hby at_110) rfl ?_
        show Steps p.tables e below (T5.setTop (mkF m 112 #[.val (.int p0), .val (.int p1), .val (.int p2), .val (.int (0 : Int32)), .val (.int (0 : Int32)), .val (.int md), .val (.int er), .val (.ref b1), .val (.int (0 : Int32)), .val (.int (0 : Int32)), .unset, .unset, .unset, .unset, .unset] [(.int (0 : Int32))])) _
        refine XS.ifYes X5.here hx rfl (pc0 := 112) (pc' := 135) rfl (hb hby at_112) rfl ((if0 _ _).trans (teq (rfl : (0 : Int32) = (0 : Int32))).1) (by decide) (by decide) ?_
        exact k
      obtain ⟨cq78, kq78, q78a, q78b, q78c⟩ := isOf hZ rfl E5q
      obtain ⟨_, _, ⟨T78, L78, k78, n78⟩, -, X78, ⟨Lc78, hQ78, l78, y78, z78⟩, st78⟩ := X5.virtualBack hx (y := (⟨"com/example/tideline/tideline/session/FetcherSession", "startOver", "(S)Z"⟩ : MethodName)) (z := (⟨"com/example/tideline/tideline/session/FetcherSession", "startOver", "(S)Z"⟩ : MethodName)) hown (mvT hZ (hw _ (List.mem_of_getElem? (i := 81) rfl))) (mvT hZ (hw _ (List.mem_of_getElem? (i := 82) rfl))) (notFace_of_selects (args := #[]) (mvT hZ (hw _ (List.mem_of_getElem? (i := 84) rfl)))) (mvT hZ (hw _ (List.mem_of_getElem? (i := 84) rfl))) (mvT hZ (hw _ (List.mem_of_getElem? (i := 83) rfl))) (by decide) (backOf (W := 0) (rm10z l Z a0 hw [] b1 er (0 : Int32) (0 : Int32) l2_5 f2_5 (.ref xa3) (.ref rq5) T5.heap n0 Zs6 Fepoch_5q Fheld_5q Flisting_5q Fforgetting_5q Fid_5q Fpending_5q E5q g_b1 rfl) hZ (hw _ (List.mem_of_getElem? (i := 85) rfl)) (hw _ (List.mem_of_getElem? (i := 2) rfl)) (by decide) (by decide)) q78a q78c (g := (mkF m 139 #[.val (.int p0), .val (.int p1), .val (.int p2), .val (.int (0 : Int32)), .val (.int (0 : Int32)), .val (.int md), .val (.int er), .val (.ref b1), .val (.int (0 : Int32)), .val (.int (0 : Int32)), .unset, .unset, .unset, .unset, .unset] [(.int er), (.ref b1)])) rfl (by rw [hml]; rfl) (Steps.refl _) (argsL := [(.int er)]) (rest := []) (lenOf pd_9 rfl) rfl (by show 2 * 0 + _ ≤ _; exact Nat.le_of_eq rfl) (hb hby at_139) (fun _ _ => ⟨rfl, rfl, (by decide : 14 + 0 ≤ _), (by decide : 94 + 0 ≤ _)⟩)
      dsimp only [Pt.U, Pt.locs, Pt.cells, Pt.slots] at X78 l78 y78 z78 st78 hQ78
      subst l78 y78 z78
      obtain ⟨rfl, N78q, K78q, E78q, F0_78q, F1_78q, F2_78q, F3_78q, F4_78q, F5_78q⟩ := hQ78
      have N78 := Fr.app N5 N78q
      have E_b1_78 := E5q.keep K78q
      have E_rq5_78 := Er5q.keep K78q
      have F_rq5_sessionId_78 := RsessionId_5q.keep K78q (ninS ne_rq5 nin0)
      have F_rq5_epoch_78 := Repoch_5q.keep K78q (ninS ne_rq5 nin0)
      have F_rq5_listed_78 := Rlisted_5q.keep K78q (ninS ne_rq5 nin0)
      have F_rq5_forgotten_78 := Rforgotten_5q.keep K78q (ninS ne_rq5 nin0)
      have P_l2_5_78 := Pl5q.keep K78q (allS hlt5 all0)
      have P_f2_5_78 := Pf5q.keep K78q (allS hlt5 all0)
      have Zs79 := Nat.le_trans Zs6 K78q.1
      have pre95 : ∀ t, Steps p.tables e below (T78.setTop (mkF m 144 #[.val (.int p0), .val (.int p1), .val (.int p2), .val (.int (0 : Int32)), .val (.int (0 : Int32)), .val (.int md), .val (.int er), .val (.ref b1), .val (.int (0 : Int32)), .val (.int (0 : Int32)), .val (.int (0 : Int32)), .unset, .unset, .unset, .unset] [])) t → Steps p.tables e below (s₁.setTop (entryFrame m #[(.int p0), (.int p1), (.int p2)] maxLocals)) t := by
        intro t k
        refine pre94 t ?_
        show Steps p.tables e below (T5.setTop (mkF m 135 #[.val (.int p0), .val (.int p1), .val (.int p2), .val (.int (0 : Int32)), .val (.int (0 : Int32)), .val (.int md), .val (.int er), .val (.ref b1), .val (.int (0 : Int32)), .val (.int (0 : Int32)), .unset, .unset, .unset, .unset, .unset] [])) _
        refine XS.aload X5.here hx rfl (hb hby at_135) rfl rfl ?_
        show Steps p.tables e below (T5.setTop (mkF m 137 #[.val (.int p0), .val (.int p1), .val (.int p2), .val (.int (0 : Int32)), .val (.int (0 : Int32)), .val (.int md), .val (.int er), .val (.ref b1), .val (.int (0 : Int32)), .val (.int (0 : Int32)), .unset, .unset, .unset, .unset, .unset] [(.ref b1)])) _
        refine XS.iload X5.here hx rfl (hb hby at_137) rfl ?_
        show Steps p.tables e below (T5.setTop (mkF m 139 #[.val (.int p0), .val (.int p1), .val (.int p2), .val (.int (0 : Int32)), .val (.int (0 : Int32)), .val (.int md), .val (.int er), .val (.ref b1), .val (.int (0 : Int32)), .val (.int (0 : Int32)), .unset, .unset, .unset, .unset, .unset] [(.int er), (.ref b1)])) _
        refine st78.trans ?_
        show Steps p.tables e below (T78.setTop (mkF m 142 #[.val (.int p0), .val (.int p1), .val (.int p2), .val (.int (0 : Int32)), .val (.int (0 : Int32)), .val (.int md), .val (.int er), .val (.ref b1), .val (.int (0 : Int32)), .val (.int (0 : Int32)), .unset, .unset, .unset, .unset, .unset] [(.int (0 : Int32))])) _
        refine XS.istore X78.here hx rfl (hb hby at_142) rfl (l' := #[.val (.int p0), .val (.int p1), .val (.int p2), .val (.int (0 : Int32)), .val (.int (0 : Int32)), .val (.int md), .val (.int er), .val (.ref b1), .val (.int (0 : Int32)), .val (.int (0 : Int32)), .val (.int (0 : Int32)), .unset, .unset, .unset, .unset]) rfl ?_
        exact k
      have pre96 : ∀ t, Steps p.tables e below (T78.setTop (mkF m 170 #[.val (.int p0), .val (.int p1), .val (.int p2), .val (.int (0 : Int32)), .val (.int (0 : Int32)), .val (.int md), .val (.int er), .val (.ref b1), .val (.int (0 : Int32)), .val (.int (0 : Int32)), .val (.int (0 : Int32)), .val (.int (0 : Int32)), .unset, .unset, .unset] [])) t → Steps p.tables e below (s₁.setTop (entryFrame m #[(.int p0), (.int p1), (.int p2)] maxLocals)) t := by
        intro t k
        refine pre95 t ?_
        show Steps p.tables e below (T78.setTop (mkF m 144 #[.val (.int p0), .val (.int p1), .val (.int p2), .val (.int (0 : Int32)), .val (.int (0 : Int32)), .val (.int md), .val (.int er), .val (.ref b1), .val (.int (0 : Int32)), .val (.int (0 : Int32)), .val (.int (0 : Int32)), .unset, .unset, .unset, .unset] [])) _
        refine XS.iload X78.here hx rfl (hb hby at_144) rfl ?_
        show Steps p.tables e below (T78.setTop (mkF m 146 #[.val (.int p0), .val (.int p1), .val (.int p2), .val (.int (0 : Int32)), .val (.int (0 : Int32)), .val (.int md), .val (.int er), .val (.ref b1), .val (.int (0 : Int32)), .val (.int (0 : Int32)), .val (.int (0 : Int32)), .unset, .unset, .unset, .unset] [(.int (0 : Int32))])) _
        refine XS.ifYes X78.here hx rfl (pc0 := 146) (pc' := 167) rfl (hb hby at_146) rfl ((if0 _ _).trans (teq (rfl : (0 : Int32) = (0 : Int32))).1) (by decide) (by decide) ?_
        show Steps p.tables e below (T78.setTop (mkF m 167 #[.val (.int p0), .val (.int p1), .val (.int p2), .val (.int (0 : Int32)), .val (.int (0 : Int32)), .val (.int md), .val (.int er), .val (.ref b1), .val (.int (0 : Int32)), .val (.int (0 : Int32)), .val (.int (0 : Int32)), .unset, .unset, .unset, .unset] [])) _
        refine XS.iconst X78.here hx rfl (hb hby at_167) ?_
        show Steps p.tables e below (T78.setTop (mkF m 168 #[.val (.int p0), .val (.int p1), .val (.int p2), .val (.int (0 : Int32)), .val (.int (0 : Int32)), .val (.int md), .val (.int er), .val (.ref b1), .val (.int (0 : Int32)), .val (.int (0 : Int32)), .val (.int (0 : Int32)), .unset, .unset, .unset, .unset] [(.int (0 : Int32))])) _
        refine XS.istore X78.here hx rfl (hb hby at_168) rfl (l' := #[.val (.int p0), .val (.int p1), .val (.int p2), .val (.int (0 : Int32)), .val (.int (0 : Int32)), .val (.int md), .val (.int er), .val (.ref b1), .val (.int (0 : Int32)), .val (.int (0 : Int32)), .val (.int (0 : Int32)), .val (.int (0 : Int32)), .unset, .unset, .unset]) rfl ?_
        exact k
      have pre97 : ∀ t, Steps p.tables e below (T78.setTop (mkF m 194 #[.val (.int p0), .val (.int p1), .val (.int p2), .val (.int (0 : Int32)), .val (.int (0 : Int32)), .val (.int md), .val (.int er), .val (.ref b1), .val (.int (0 : Int32)), .val (.int (0 : Int32)), .val (.int (0 : Int32)), .val (.int (0 : Int32)), .val (.int (0 : Int32)), .unset, .unset] [])) t → Steps p.tables e below (s₁.setTop (entryFrame m #[(.int p0), (.int p1), (.int p2)] maxLocals)) t := by
        intro t k
        refine pre96 t ?_
        show Steps p.tables e below (T78.setTop (mkF m 170 #[.val (.int p0), .val (.int p1), .val (.int p2), .val (.int (0 : Int32)), .val (.int (0 : Int32)), .val (.int md), .val (.int er), .val (.ref b1), .val (.int (0 : Int32)), .val (.int (0 : Int32)), .val (.int (0 : Int32)), .val (.int (0 : Int32)), .unset, .unset, .unset] [])) _
        refine XS.iload X78.here hx rfl (hb hby at_170) rfl ?_
        show Steps p.tables e below (T78.setTop (mkF m 172 #[.val (.int p0), .val (.int p1), .val (.int p2), .val (.int (0 : Int32)), .val (.int (0 : Int32)), .val (.int md), .val (.int er), .val (.ref b1), .val (.int (0 : Int32)), .val (.int (0 : Int32)), .val (.int (0 : Int32)), .val (.int (0 : Int32)), .unset, .unset, .unset] [(.int (0 : Int32))])) _
        refine XS.ifYes X78.here hx rfl (pc0 := 172) (pc' := 191) rfl (hb hby at_172) rfl ((if0 _ _).trans (teq (rfl : (0 : Int32) = (0 : Int32))).1) (by decide) (by decide) ?_
        show Steps p.tables e below (T78.setTop (mkF m 191 #[.val (.int p0), .val (.int p1), .val (.int p2), .val (.int (0 : Int32)), .val (.int (0 : Int32)), .val (.int md), .val (.int er), .val (.ref b1), .val (.int (0 : Int32)), .val (.int (0 : Int32)), .val (.int (0 : Int32)), .val (.int (0 : Int32)), .unset, .unset, .unset] [])) _
        refine XS.iconst X78.here hx rfl (hb hby at_191) ?_
        show Steps p.tables e below (T78.setTop (mkF m 192 #[.val (.int p0), .val (.int p1), .val (.int p2), .val (.int (0 : Int32)), .val (.int (0 : Int32)), .val (.int md), .val (.int er), .val (.ref b1), .val (.int (0 : Int32)), .val (.int (0 : Int32)), .val (.int (0 : Int32)), .val (.int (0 : Int32)), .unset, .unset, .unset] [(.int (0 : Int32))])) _
        refine XS.istore X78.here hx rfl (hb hby at_192) rfl (l' := #[.val (.int p0), .val (.int p1), .val (.int p2), .val (.int (0 : Int32)), .val (.int (0 : Int32)), .val (.int md), .val (.int er), .val (.ref b1), .val (.int (0 : Int32)), .val (.int (0 : Int32)), .val (.int (0 : Int32)), .val (.int (0 : Int32)), .val (.int (0 : Int32)), .unset, .unset]) rfl ?_
        exact k
      have pre98 : ∀ t, Steps p.tables e below (T78.setTop (mkF m 207 #[.val (.int p0), .val (.int p1), .val (.int p2), .val (.int (0 : Int32)), .val (.int (0 : Int32)), .val (.int md), .val (.int er), .val (.ref b1), .val (.int (0 : Int32)), .val (.int (0 : Int32)), .val (.int (0 : Int32)), .val (.int (0 : Int32)), .val (.int (0 : Int32)), .val (.int (0 : Int32)), .unset] [])) t → Steps p.tables e below (s₁.setTop (entryFrame m #[(.int p0), (.int p1), (.int p2)] maxLocals)) t := by
        intro t k
        refine pre97 t ?_
        show Steps p.tables e below (T78.setTop (mkF m 194 #[.val (.int p0), .val (.int p1), .val (.int p2), .val (.int (0 : Int32)), .val (.int (0 : Int32)), .val (.int md), .val (.int er), .val (.ref b1), .val (.int (0 : Int32)), .val (.int (0 : Int32)), .val (.int (0 : Int32)), .val (.int (0 : Int32)), .val (.int (0 : Int32)), .unset, .unset] [])) _
        refine XS.iload X78.here hx rfl (hb hby at_194) rfl ?_
        show Steps p.tables e below (T78.setTop (mkF m 196 #[.val (.int p0), .val (.int p1), .val (.int p2), .val (.int (0 : Int32)), .val (.int (0 : Int32)), .val (.int md), .val (.int er), .val (.ref b1), .val (.int (0 : Int32)), .val (.int (0 : Int32)), .val (.int (0 : Int32)), .val (.int (0 : Int32)), .val (.int (0 : Int32)), .unset, .unset] [(.int (0 : Int32))])) _
        refine XS.ifYes X78.here hx rfl (pc0 := 196) (pc' := 203) rfl (hb hby at_196) rfl ((if0 _ _).trans (teq (rfl : (0 : Int32) = (0 : Int32))).1) (by decide) (by decide) ?_
        show Steps p.tables e below (T78.setTop (mkF m 203 #[.val (.int p0), .val (.int p1), .val (.int p2), .val (.int (0 : Int32)), .val (.int (0 : Int32)), .val (.int md), .val (.int er), .val (.ref b1), .val (.int (0 : Int32)), .val (.int (0 : Int32)), .val (.int (0 : Int32)), .val (.int (0 : Int32)), .val (.int (0 : Int32)), .unset, .unset] [])) _
        refine XS.iload X78.here hx rfl (hb hby at_203) rfl ?_
        show Steps p.tables e below (T78.setTop (mkF m 205 #[.val (.int p0), .val (.int p1), .val (.int p2), .val (.int (0 : Int32)), .val (.int (0 : Int32)), .val (.int md), .val (.int er), .val (.ref b1), .val (.int (0 : Int32)), .val (.int (0 : Int32)), .val (.int (0 : Int32)), .val (.int (0 : Int32)), .val (.int (0 : Int32)), .unset, .unset] [(.int (0 : Int32))])) _
        refine XS.istore X78.here hx rfl (hb hby at_205) rfl (l' := #[.val (.int p0), .val (.int p1), .val (.int p2), .val (.int (0 : Int32)), .val (.int (0 : Int32)), .val (.int md), .val (.int er), .val (.ref b1), .val (.int (0 : Int32)), .val (.int (0 : Int32)), .val (.int (0 : Int32)), .val (.int (0 : Int32)), .val (.int (0 : Int32)), .val (.int (0 : Int32)), .unset]) rfl ?_
        exact k
      obtain ⟨cq80, kq80, q80a, q80b, q80c⟩ := isOf hZ rfl E78q
      obtain ⟨_, _, ⟨T80, L80, k80, n80⟩, -, X80, ⟨Lc80, hQ80, l80, y80, z80⟩, st80⟩ := X78.virtualBack hx (y := (⟨"com/example/tideline/tideline/session/FetcherSession", "next", "()Lcom/example/tideline/tideline/session/FetcherSession$Request;"⟩ : MethodName)) (z := (⟨"com/example/tideline/tideline/session/FetcherSession", "next", "()Lcom/example/tideline/tideline/session/FetcherSession$Request;"⟩ : MethodName)) hown (mvT hZ (hw _ (List.mem_of_getElem? (i := 52) rfl))) (mvT hZ (hw _ (List.mem_of_getElem? (i := 53) rfl))) (notFace_of_selects (args := #[]) (mvT hZ (hw _ (List.mem_of_getElem? (i := 55) rfl)))) (mvT hZ (hw _ (List.mem_of_getElem? (i := 55) rfl))) (mvT hZ (hw _ (List.mem_of_getElem? (i := 54) rfl))) (by decide) (backOf (W := 0) (rm7 l Z a0 hw [] b1 (0 : Int32) (0 : Int32) l2_5 f2_5 (.ref xa3) (.ref rq5) T78.heap n0 Zs79 F0_78q F1_78q F2_78q F3_78q F4_78q F5_78q E78q g_b1) hZ (hw _ (List.mem_of_getElem? (i := 56) rfl)) (hw _ (List.mem_of_getElem? (i := 2) rfl)) (by decide) (by decide)) q80a q80c (g := (mkF m 209 #[.val (.int p0), .val (.int p1), .val (.int p2), .val (.int (0 : Int32)), .val (.int (0 : Int32)), .val (.int md), .val (.int er), .val (.ref b1), .val (.int (0 : Int32)), .val (.int (0 : Int32)), .val (.int (0 : Int32)), .val (.int (0 : Int32)), .val (.int (0 : Int32)), .val (.int (0 : Int32)), .unset] [(.ref b1)])) rfl (by rw [hml]; rfl) (Steps.refl _) (argsL := []) (rest := []) (lenOf pd_7 rfl) rfl (by show 2 * 0 + _ ≤ _; exact Nat.le_of_eq rfl) (hb hby at_209) (fun _ _ => ⟨rfl, rfl, (by decide : 14 + 7 ≤ _), (by decide : 94 + 46 ≤ _)⟩)
      dsimp only [Pt.U, Pt.locs, Pt.cells, Pt.slots] at X80 l80 y80 z80 st80 hQ80
      subst l80 y80 z80
      obtain ⟨rq80, l2_80, f2_80, x3_80, rfl, N80q, K80q, E80q, Fid_80q, Fepoch_80q, Fheld_80q, Fpending_80q, Flisting_80q, Fforgetting_80q, Pl80q, Pf80q, Er80q, ge80q, RsessionId_80q, Repoch_80q, Rlisted_80q, Rforgotten_80q, hx80q⟩ := hQ80
      have N80 := Fr.app N78 N80q
      have hlt80 : b1 < T78.heap.size := E78q.lt
      have E_b1_80 := E78q.keep K80q
      have P_l2_5_80 := P_l2_5_78.keep K80q (allS hlt5 all0)
      have P_f2_5_80 := P_f2_5_78.keep K80q (allS hlt5 all0)
      have Zs81 := Nat.le_trans Zs79 K80q.1
      have ne_rq80 : rq80 ≠ b1 := fun q => Nat.lt_irrefl _ (Nat.lt_of_lt_of_le (q ▸ hlt80) ge80q)
      have pre99 : ∀ t, Steps p.tables e below (T80.setTop (mkF m 214 #[.val (.int p0), .val (.int p1), .val (.int p2), .val (.int (0 : Int32)), .val (.int (0 : Int32)), .val (.int md), .val (.int er), .val (.ref b1), .val (.int (0 : Int32)), .val (.int (0 : Int32)), .val (.int (0 : Int32)), .val (.int (0 : Int32)), .val (.int (0 : Int32)), .val (.int (0 : Int32)), .val (.ref rq80)] [])) t → Steps p.tables e below (s₁.setTop (entryFrame m #[(.int p0), (.int p1), (.int p2)] maxLocals)) t := by
        intro t k
        refine pre98 t ?_
        show Steps p.tables e below (T78.setTop (mkF m 207 #[.val (.int p0), .val (.int p1), .val (.int p2), .val (.int (0 : Int32)), .val (.int (0 : Int32)), .val (.int md), .val (.int er), .val (.ref b1), .val (.int (0 : Int32)), .val (.int (0 : Int32)), .val (.int (0 : Int32)), .val (.int (0 : Int32)), .val (.int (0 : Int32)), .val (.int (0 : Int32)), .unset] [])) _
        refine XS.aload X78.here hx rfl (hb hby at_207) rfl rfl ?_
        show Steps p.tables e below (T78.setTop (mkF m 209 #[.val (.int p0), .val (.int p1), .val (.int p2), .val (.int (0 : Int32)), .val (.int (0 : Int32)), .val (.int md), .val (.int er), .val (.ref b1), .val (.int (0 : Int32)), .val (.int (0 : Int32)), .val (.int (0 : Int32)), .val (.int (0 : Int32)), .val (.int (0 : Int32)), .val (.int (0 : Int32)), .unset] [(.ref b1)])) _
        refine st80.trans ?_
        show Steps p.tables e below (T80.setTop (mkF m 212 #[.val (.int p0), .val (.int p1), .val (.int p2), .val (.int (0 : Int32)), .val (.int (0 : Int32)), .val (.int md), .val (.int er), .val (.ref b1), .val (.int (0 : Int32)), .val (.int (0 : Int32)), .val (.int (0 : Int32)), .val (.int (0 : Int32)), .val (.int (0 : Int32)), .val (.int (0 : Int32)), .unset] [(.ref rq80)])) _
        refine XS.astore X80.here hx rfl (hb hby at_212) rfl rfl (l' := #[.val (.int p0), .val (.int p1), .val (.int p2), .val (.int (0 : Int32)), .val (.int (0 : Int32)), .val (.int md), .val (.int er), .val (.ref b1), .val (.int (0 : Int32)), .val (.int (0 : Int32)), .val (.int (0 : Int32)), .val (.int (0 : Int32)), .val (.int (0 : Int32)), .val (.int (0 : Int32)), .val (.ref rq80)]) rfl ?_
        exact k
      have pre100 : ∀ t, Steps p.tables e below (T80.setTop (mkF m 221 #[.val (.int p0), .val (.int p1), .val (.int p2), .val (.int (0 : Int32)), .val (.int (0 : Int32)), .val (.int md), .val (.int er), .val (.ref b1), .val (.int (0 : Int32)), .val (.int (0 : Int32)), .val (.int (0 : Int32)), .val (.int (0 : Int32)), .val (.int (0 : Int32)), .val (.int (0 : Int32)), .val (.ref rq80)] [])) t → Steps p.tables e below (s₁.setTop (entryFrame m #[(.int p0), (.int p1), (.int p2)] maxLocals)) t := by
        intro t k
        refine pre99 t ?_
        show Steps p.tables e below (T80.setTop (mkF m 214 #[.val (.int p0), .val (.int p1), .val (.int p2), .val (.int (0 : Int32)), .val (.int (0 : Int32)), .val (.int md), .val (.int er), .val (.ref b1), .val (.int (0 : Int32)), .val (.int (0 : Int32)), .val (.int (0 : Int32)), .val (.int (0 : Int32)), .val (.int (0 : Int32)), .val (.int (0 : Int32)), .val (.ref rq80)] [])) _
        refine XS.iload X80.here hx rfl (hb hby at_214) rfl ?_
        show Steps p.tables e below (T80.setTop (mkF m 216 #[.val (.int p0), .val (.int p1), .val (.int p2), .val (.int (0 : Int32)), .val (.int (0 : Int32)), .val (.int md), .val (.int er), .val (.ref b1), .val (.int (0 : Int32)), .val (.int (0 : Int32)), .val (.int (0 : Int32)), .val (.int (0 : Int32)), .val (.int (0 : Int32)), .val (.int (0 : Int32)), .val (.ref rq80)] [(.int (0 : Int32))])) _
        refine XS.iload X80.here hx rfl (hb hby at_216) rfl ?_
        show Steps p.tables e below (T80.setTop (mkF m 218 #[.val (.int p0), .val (.int p1), .val (.int p2), .val (.int (0 : Int32)), .val (.int (0 : Int32)), .val (.int md), .val (.int er), .val (.ref b1), .val (.int (0 : Int32)), .val (.int (0 : Int32)), .val (.int (0 : Int32)), .val (.int (0 : Int32)), .val (.int (0 : Int32)), .val (.int (0 : Int32)), .val (.ref rq80)] [(.int (0 : Int32)), (.int (0 : Int32))])) _
        refine XS.icmpNo X80.here hx rfl (hb hby at_218) rfl (teq (rfl : (0 : Int32) = (0 : Int32))).2 ?_
        exact k
      obtain ⟨cq82, kq82, q82a, q82b, q82c⟩ := isOf hZ rfl E80q
      obtain ⟨_, _, ⟨T82, L82, k82, n82⟩, -, X82, ⟨Lc82, hQ82, l82, y82, z82⟩, st82⟩ := X80.virtualBack hx (y := (⟨"com/example/tideline/tideline/session/FetcherSession", "incremental", "()Z"⟩ : MethodName)) (z := (⟨"com/example/tideline/tideline/session/FetcherSession", "incremental", "()Z"⟩ : MethodName)) hown (mvT hZ (hw _ (List.mem_of_getElem? (i := 86) rfl))) (mvT hZ (hw _ (List.mem_of_getElem? (i := 87) rfl))) (notFace_of_selects (args := #[]) (mvT hZ (hw _ (List.mem_of_getElem? (i := 89) rfl)))) (mvT hZ (hw _ (List.mem_of_getElem? (i := 89) rfl))) (mvT hZ (hw _ (List.mem_of_getElem? (i := 88) rfl))) (by decide) (backOf (W := 0) (rm11z l Z a0 hw [] b1 (0 : Int32) T80.heap n0 Zs81 Fepoch_80q rfl) hZ (hw _ (List.mem_of_getElem? (i := 90) rfl)) (hw _ (List.mem_of_getElem? (i := 2) rfl)) (by decide) (by decide)) q82a q82c (g := (mkF m 223 #[.val (.int p0), .val (.int p1), .val (.int p2), .val (.int (0 : Int32)), .val (.int (0 : Int32)), .val (.int md), .val (.int er), .val (.ref b1), .val (.int (0 : Int32)), .val (.int (0 : Int32)), .val (.int (0 : Int32)), .val (.int (0 : Int32)), .val (.int (0 : Int32)), .val (.int (0 : Int32)), .val (.ref rq80)] [(.ref b1)])) rfl (by rw [hml]; rfl) (Steps.refl _) (argsL := []) (rest := []) (lenOf pd_10 rfl) rfl (by show 2 * 0 + _ ≤ _; exact Nat.le_of_eq rfl) (hb hby at_223) (fun _ _ => ⟨rfl, rfl, (by decide : 21 + 0 ≤ _), (by decide : 140 + 0 ≤ _)⟩)
      dsimp only [Pt.U, Pt.locs, Pt.cells, Pt.slots] at X82 l82 y82 z82 st82 hQ82
      subst l82 y82 z82
      obtain ⟨rfl, N82q, e82q⟩ := hQ82
      have N82 := Fr.app N80 N82q
      have pre101 : ∀ t, Steps p.tables e below (T82.setTop (mkF m 228 #[.val (.int p0), .val (.int p1), .val (.int p2), .val (.int (0 : Int32)), .val (.int (0 : Int32)), .val (.int md), .val (.int er), .val (.ref b1), .val (.int (0 : Int32)), .val (.int (0 : Int32)), .val (.int (0 : Int32)), .val (.int (0 : Int32)), .val (.int (0 : Int32)), .val (.int (0 : Int32)), .val (.ref rq80)] [(.int (0 : Int32)), (.int (0 : Int32))])) t → Steps p.tables e below (s₁.setTop (entryFrame m #[(.int p0), (.int p1), (.int p2)] maxLocals)) t := by
        intro t k
        refine pre100 t ?_
        show Steps p.tables e below (T80.setTop (mkF m 221 #[.val (.int p0), .val (.int p1), .val (.int p2), .val (.int (0 : Int32)), .val (.int (0 : Int32)), .val (.int md), .val (.int er), .val (.ref b1), .val (.int (0 : Int32)), .val (.int (0 : Int32)), .val (.int (0 : Int32)), .val (.int (0 : Int32)), .val (.int (0 : Int32)), .val (.int (0 : Int32)), .val (.ref rq80)] [])) _
        refine XS.aload X80.here hx rfl (hb hby at_221) rfl rfl ?_
        show Steps p.tables e below (T80.setTop (mkF m 223 #[.val (.int p0), .val (.int p1), .val (.int p2), .val (.int (0 : Int32)), .val (.int (0 : Int32)), .val (.int md), .val (.int er), .val (.ref b1), .val (.int (0 : Int32)), .val (.int (0 : Int32)), .val (.int (0 : Int32)), .val (.int (0 : Int32)), .val (.int (0 : Int32)), .val (.int (0 : Int32)), .val (.ref rq80)] [(.ref b1)])) _
        refine st82.trans ?_
        show Steps p.tables e below (T82.setTop (mkF m 226 #[.val (.int p0), .val (.int p1), .val (.int p2), .val (.int (0 : Int32)), .val (.int (0 : Int32)), .val (.int md), .val (.int er), .val (.ref b1), .val (.int (0 : Int32)), .val (.int (0 : Int32)), .val (.int (0 : Int32)), .val (.int (0 : Int32)), .val (.int (0 : Int32)), .val (.int (0 : Int32)), .val (.ref rq80)] [(.int (0 : Int32))])) _
        refine XS.iload X82.here hx rfl (hb hby at_226) rfl ?_
        exact k
      have pre102 : ∀ t, Steps p.tables e below (T82.setTop (mkF m 236 #[.val (.int p0), .val (.int p1), .val (.int p2), .val (.int (0 : Int32)), .val (.int (0 : Int32)), .val (.int md), .val (.int er), .val (.ref b1), .val (.int (0 : Int32)), .val (.int (0 : Int32)), .val (.int (0 : Int32)), .val (.int (0 : Int32)), .val (.int (0 : Int32)), .val (.int (0 : Int32)), .val (.ref rq80)] [(.int (0 : Int32)), (.int (0 : Int32))])) t → Steps p.tables e below (s₁.setTop (entryFrame m #[(.int p0), (.int p1), (.int p2)] maxLocals)) t := by
        intro t k
        refine pre101 t ?_
        show Steps p.tables e below (T82.setTop (mkF m 228 #[.val (.int p0), .val (.int p1), .val (.int p2), .val (.int (0 : Int32)), .val (.int (0 : Int32)), .val (.int md), .val (.int er), .val (.ref b1), .val (.int (0 : Int32)), .val (.int (0 : Int32)), .val (.int (0 : Int32)), .val (.int (0 : Int32)), .val (.int (0 : Int32)), .val (.int (0 : Int32)), .val (.ref rq80)] [(.int (0 : Int32)), (.int (0 : Int32))])) _
        refine XS.ifYes X82.here hx rfl (pc0 := 228) (pc' := 235) rfl (hb hby at_228) rfl ((if0 _ _).trans (teq (rfl : (0 : Int32) = (0 : Int32))).1) (by decide) (by decide) ?_
        show Steps p.tables e below (T82.setTop (mkF m 235 #[.val (.int p0), .val (.int p1), .val (.int p2), .val (.int (0 : Int32)), .val (.int (0 : Int32)), .val (.int md), .val (.int er), .val (.ref b1), .val (.int (0 : Int32)), .val (.int (0 : Int32)), .val (.int (0 : Int32)), .val (.int (0 : Int32)), .val (.int (0 : Int32)), .val (.int (0 : Int32)), .val (.ref rq80)] [(.int (0 : Int32))])) _
        refine XS.iconst X82.here hx rfl (hb hby at_235) ?_
        exact k
      obtain ⟨cq83, kq83, q83a, q83b, q83c⟩ := isOf hZ e82q Er80q
      obtain ⟨_, _, ⟨T83, L83, k83, n83⟩, -, X83, ⟨Lc83, hQ83, l83, y83, z83⟩, st83⟩ := X82.virtualBack hx (y := (⟨"com/example/tideline/tideline/session/FetcherSession$Request", "sessionId", "()I"⟩ : MethodName)) (z := (⟨"com/example/tideline/tideline/session/FetcherSession$Request", "sessionId", "()I"⟩ : MethodName)) hown (mvT hZ (hw _ (List.mem_of_getElem? (i := 91) rfl))) (mvT hZ (hw _ (List.mem_of_getElem? (i := 92) rfl))) (notFace_of_selects (args := #[]) (mvT hZ (hw _ (List.mem_of_getElem? (i := 94) rfl)))) (mvT hZ (hw _ (List.mem_of_getElem? (i := 94) rfl))) (mvT hZ (hw _ (List.mem_of_getElem? (i := 93) rfl))) (by decide) (backOf (W := 0) (rm12 l Z a0 hw [] rq80 (0 : Int32) T80.heap n0 Zs81 RsessionId_80q) hZ (hw _ (List.mem_of_getElem? (i := 95) rfl)) (hw _ (List.mem_of_getElem? (i := 59) rfl)) (by decide) (by decide)) q83a q83c (g := (mkF m 241 #[.val (.int p0), .val (.int p1), .val (.int p2), .val (.int (0 : Int32)), .val (.int (0 : Int32)), .val (.int md), .val (.int er), .val (.ref b1), .val (.int (0 : Int32)), .val (.int (0 : Int32)), .val (.int (0 : Int32)), .val (.int (0 : Int32)), .val (.int (0 : Int32)), .val (.int (0 : Int32)), .val (.ref rq80)] [(.ref rq80)])) rfl (by rw [hml]; rfl) (Steps.refl _) (argsL := []) (rest := []) (lenOf pd_11 rfl) rfl (by show 2 * 0 + _ ≤ _; exact Nat.le_of_eq rfl) (hb hby at_241) (fun _ _ => ⟨rfl, e82q, (by decide : 21 + 0 ≤ _), (by decide : 140 + 0 ≤ _)⟩)
      dsimp only [Pt.U, Pt.locs, Pt.cells, Pt.slots] at X83 l83 y83 z83 st83 hQ83
      subst l83 y83 z83
      obtain ⟨rfl, N83q, e83q⟩ := hQ83
      have N83 := Fr.app N82 N83q
      obtain ⟨cq84, kq84, q84a, q84b, q84c⟩ := isOf hZ e83q Er80q
      obtain ⟨_, _, ⟨T84, L84, k84, n84⟩, -, X84, ⟨Lc84, hQ84, l84, y84, z84⟩, st84⟩ := X83.virtualBack hx (y := (⟨"com/example/tideline/tideline/session/FetcherSession$Request", "epoch", "()I"⟩ : MethodName)) (z := (⟨"com/example/tideline/tideline/session/FetcherSession$Request", "epoch", "()I"⟩ : MethodName)) hown (mvT hZ (hw _ (List.mem_of_getElem? (i := 96) rfl))) (mvT hZ (hw _ (List.mem_of_getElem? (i := 97) rfl))) (notFace_of_selects (args := #[]) (mvT hZ (hw _ (List.mem_of_getElem? (i := 99) rfl)))) (mvT hZ (hw _ (List.mem_of_getElem? (i := 99) rfl))) (mvT hZ (hw _ (List.mem_of_getElem? (i := 98) rfl))) (by decide) (backOf (W := 0) (rm13 l Z a0 hw [] rq80 (0 : Int32) T80.heap n0 Zs81 Repoch_80q) hZ (hw _ (List.mem_of_getElem? (i := 100) rfl)) (hw _ (List.mem_of_getElem? (i := 59) rfl)) (by decide) (by decide)) q84a q84c (g := (mkF m 251 #[.val (.int p0), .val (.int p1), .val (.int p2), .val (.int (0 : Int32)), .val (.int (0 : Int32)), .val (.int md), .val (.int er), .val (.ref b1), .val (.int (0 : Int32)), .val (.int (0 : Int32)), .val (.int (0 : Int32)), .val (.int (0 : Int32)), .val (.int (0 : Int32)), .val (.int (0 : Int32)), .val (.ref rq80)] [(.ref rq80)])) rfl (by rw [hml]; rfl) (Steps.refl _) (argsL := []) (rest := []) (lenOf pd_11 rfl) rfl (by show 2 * 0 + _ ≤ _; exact Nat.le_of_eq rfl) (hb hby at_251) (fun _ _ => ⟨rfl, e83q, (by decide : 21 + 0 ≤ _), (by decide : 140 + 0 ≤ _)⟩)
      dsimp only [Pt.U, Pt.locs, Pt.cells, Pt.slots] at X84 l84 y84 z84 st84 hQ84
      subst l84 y84 z84
      obtain ⟨rfl, N84q, e84q⟩ := hQ84
      have N84 := Fr.app N83 N84q
      obtain ⟨fs, hr, hrun, hended, hW, hsame⟩ := X84.leave (v := some (.int (1 : Int32))) (fun h => by rw [Bd.returns] at h; cases h)
      refine ⟨_, _, pre102 _ ?_, hrun, hended, _, _, rfl, ?_, ⟨_, rfl⟩, hW, hsame.mono (by decide) (by decide)⟩
      · show Steps p.tables e below (T82.setTop (mkF m 236 #[.val (.int p0), .val (.int p1), .val (.int p2), .val (.int (0 : Int32)), .val (.int (0 : Int32)), .val (.int md), .val (.int er), .val (.ref b1), .val (.int (0 : Int32)), .val (.int (0 : Int32)), .val (.int (0 : Int32)), .val (.int (0 : Int32)), .val (.int (0 : Int32)), .val (.int (0 : Int32)), .val (.ref rq80)] [(.int (0 : Int32)), (.int (0 : Int32))])) _
        refine XS.icmpNo X82.here hx rfl (hb hby at_236) rfl (teq (rfl : (0 : Int32) = (0 : Int32))).2 ?_
        show Steps p.tables e below (T82.setTop (mkF m 239 #[.val (.int p0), .val (.int p1), .val (.int p2), .val (.int (0 : Int32)), .val (.int (0 : Int32)), .val (.int md), .val (.int er), .val (.ref b1), .val (.int (0 : Int32)), .val (.int (0 : Int32)), .val (.int (0 : Int32)), .val (.int (0 : Int32)), .val (.int (0 : Int32)), .val (.int (0 : Int32)), .val (.ref rq80)] [])) _
        refine XS.aload X82.here hx rfl (hb hby at_239) rfl rfl ?_
        show Steps p.tables e below (T82.setTop (mkF m 241 #[.val (.int p0), .val (.int p1), .val (.int p2), .val (.int (0 : Int32)), .val (.int (0 : Int32)), .val (.int md), .val (.int er), .val (.ref b1), .val (.int (0 : Int32)), .val (.int (0 : Int32)), .val (.int (0 : Int32)), .val (.int (0 : Int32)), .val (.int (0 : Int32)), .val (.int (0 : Int32)), .val (.ref rq80)] [(.ref rq80)])) _
        refine st83.trans ?_
        show Steps p.tables e below (T83.setTop (mkF m 244 #[.val (.int p0), .val (.int p1), .val (.int p2), .val (.int (0 : Int32)), .val (.int (0 : Int32)), .val (.int md), .val (.int er), .val (.ref b1), .val (.int (0 : Int32)), .val (.int (0 : Int32)), .val (.int (0 : Int32)), .val (.int (0 : Int32)), .val (.int (0 : Int32)), .val (.int (0 : Int32)), .val (.ref rq80)] [(.int (0 : Int32))])) _
        refine XS.iload X83.here hx rfl (hb hby at_244) rfl ?_
        show Steps p.tables e below (T83.setTop (mkF m 246 #[.val (.int p0), .val (.int p1), .val (.int p2), .val (.int (0 : Int32)), .val (.int (0 : Int32)), .val (.int md), .val (.int er), .val (.ref b1), .val (.int (0 : Int32)), .val (.int (0 : Int32)), .val (.int (0 : Int32)), .val (.int (0 : Int32)), .val (.int (0 : Int32)), .val (.int (0 : Int32)), .val (.ref rq80)] [(.int (0 : Int32)), (.int (0 : Int32))])) _
        refine XS.icmpNo X83.here hx rfl (hb hby at_246) rfl (teq (rfl : (0 : Int32) = (0 : Int32))).2 ?_
        show Steps p.tables e below (T83.setTop (mkF m 249 #[.val (.int p0), .val (.int p1), .val (.int p2), .val (.int (0 : Int32)), .val (.int (0 : Int32)), .val (.int md), .val (.int er), .val (.ref b1), .val (.int (0 : Int32)), .val (.int (0 : Int32)), .val (.int (0 : Int32)), .val (.int (0 : Int32)), .val (.int (0 : Int32)), .val (.int (0 : Int32)), .val (.ref rq80)] [])) _
        refine XS.aload X83.here hx rfl (hb hby at_249) rfl rfl ?_
        show Steps p.tables e below (T83.setTop (mkF m 251 #[.val (.int p0), .val (.int p1), .val (.int p2), .val (.int (0 : Int32)), .val (.int (0 : Int32)), .val (.int md), .val (.int er), .val (.ref b1), .val (.int (0 : Int32)), .val (.int (0 : Int32)), .val (.int (0 : Int32)), .val (.int (0 : Int32)), .val (.int (0 : Int32)), .val (.int (0 : Int32)), .val (.ref rq80)] [(.ref rq80)])) _
        refine st84.trans ?_
        show Steps p.tables e below (T84.setTop (mkF m 254 #[.val (.int p0), .val (.int p1), .val (.int p2), .val (.int (0 : Int32)), .val (.int (0 : Int32)), .val (.int md), .val (.int er), .val (.ref b1), .val (.int (0 : Int32)), .val (.int (0 : Int32)), .val (.int (0 : Int32)), .val (.int (0 : Int32)), .val (.int (0 : Int32)), .val (.int (0 : Int32)), .val (.ref rq80)] [(.int (0 : Int32))])) _
        refine XS.iload X84.here hx rfl (hb hby at_254) rfl ?_
        show Steps p.tables e below (T84.setTop (mkF m 256 #[.val (.int p0), .val (.int p1), .val (.int p2), .val (.int (0 : Int32)), .val (.int (0 : Int32)), .val (.int md), .val (.int er), .val (.ref b1), .val (.int (0 : Int32)), .val (.int (0 : Int32)), .val (.int (0 : Int32)), .val (.int (0 : Int32)), .val (.int (0 : Int32)), .val (.int (0 : Int32)), .val (.ref rq80)] [(.int (0 : Int32)), (.int (0 : Int32))])) _
        refine XS.icmpNo X84.here hx rfl (hb hby at_256) rfl (teq (rfl : (0 : Int32) = (0 : Int32))).2 ?_
        show Steps p.tables e below (T84.setTop (mkF m 259 #[.val (.int p0), .val (.int p1), .val (.int p2), .val (.int (0 : Int32)), .val (.int (0 : Int32)), .val (.int md), .val (.int er), .val (.ref b1), .val (.int (0 : Int32)), .val (.int (0 : Int32)), .val (.int (0 : Int32)), .val (.int (0 : Int32)), .val (.int (0 : Int32)), .val (.int (0 : Int32)), .val (.ref rq80)] [])) _
        refine XS.iconst X84.here hx rfl (hb hby at_259) ?_
        show Steps p.tables e below (T84.setTop (mkF m 260 #[.val (.int p0), .val (.int p1), .val (.int p2), .val (.int (0 : Int32)), .val (.int (0 : Int32)), .val (.int md), .val (.int er), .val (.ref b1), .val (.int (0 : Int32)), .val (.int (0 : Int32)), .val (.int (0 : Int32)), .val (.int (0 : Int32)), .val (.int (0 : Int32)), .val (.int (0 : Int32)), .val (.ref rq80)] [(.int (1 : Int32))])) _
        refine XS.goto X84.here hx rfl (pc0 := 260) (pc' := 264) rfl (hb hby at_260) (by decide) (by decide) ?_
        show Steps p.tables e below (T84.setTop (mkF m 264 #[.val (.int p0), .val (.int p1), .val (.int p2), .val (.int (0 : Int32)), .val (.int (0 : Int32)), .val (.int md), .val (.int er), .val (.ref b1), .val (.int (0 : Int32)), .val (.int (0 : Int32)), .val (.int (0 : Int32)), .val (.int (0 : Int32)), .val (.int (0 : Int32)), .val (.int (0 : Int32)), .val (.ref rq80)] [(.int (1 : Int32))])) _
        exact retN X84 hx (t := .boolean) Bd.returns (by simp) (hb hby at_264) hr
      · show Q0 Z p0 p1 p2 h0 n0 _ T84.heap _
        rw [e84q]
        exact ⟨rfl, N84⟩
set_option maxRecDepth 65536 in
set_option maxHeartbeats 40000000 in
theorem comes_1 {Post : Tables → Env → Array Value → State → Outcome → State → Prop} (hpost : ∀ tb e args s v u, (limb_1_1.after args s (.returned v) u = true ∧ limb_1_2.after args s (.returned v) u = true ∧ True) → FrameEnd s (.returned v) u (Jvm.fieldLocs frame_1_writes args s ++ Jvm.arrayLocs frame_1_arrays args s ++ Jvm.staticLocs frame_1_statics s) 72 448 → Post tb e args s (.returned v) u) :
    ArmFor flags0 classFile x code maxLocals ret World_1 tables_1 room_1 Calls_1 rest_1 Pre_1 Post := by
  intro l hfl _ _ p e ha hc hk s m args below hf hA hF happ hP
  obtain ⟨hcalls, hrest, hpre⟩ := hP
  obtain ⟨-, -, -, hnamed, -, -, -, hat⟩ := (Spec.applies_iff hf).mp happ
  obtain ⟨hg, hn⟩ := and_e (Cond.before_iff.mp (show (Jvm.Cond.and given_1 narrow_1).before args s = true from hpre))
  obtain ⟨gv1, gv2⟩ := and_e hg
  obtain ⟨gv3, gv4⟩ := and_e gv2
  obtain ⟨gv5, gv6⟩ := and_e gv4
  obtain ⟨w0, w1, w2, rfl⟩ : ∃ w0 w1 w2 : Value, args = #[w0, w1, w2] := by
    have hs : args.size = 3 := by simpa [Cond.value, given_1] using gv1
    obtain ⟨L⟩ := args
    match L, hs with
    | [w0, w1, w2], _ => exact ⟨w0, w1, w2, rfl⟩
  have hw := fun d (hd : d ∈ tables_1) => atoms_spec (ws := Jvm.Cond.code x code maxLocals ret :: tables_1) hat d (List.mem_cons_of_mem _ hd)
  have hfit : Fit s := fun {y c} hc i hi => by
    obtain ⟨ha, rfl⟩ := Array.getElem?_eq_some_iff.mp hc
    have q := List.all_eq_true.mp ((Array.all_eq_true_iff_forall_mem.mp hF) _ (Array.getElem_mem ha)) i (List.mem_range.mpr hi)
    simpa [Array.getElem?_eq_getElem hi] using q
  obtain ⟨i0, ei0⟩ := is_v gv3
  obtain rfl : w0 = (.int i0) := Option.some.inj ei0
  obtain ⟨i1, ei1⟩ := is_v gv5
  obtain rfl : w1 = (.int i1) := Option.some.inj ei1
  obtain ⟨i2, ei2⟩ := is_v gv6
  obtain rfl : w2 = (.int i2) := Option.some.inj ei2
  obtain ⟨n, o, h1, h2, h3, _, L, rfl, ⟨rfl, N⟩, hq⟩ := rm0 l s _ hw tables_1 i0 i1 i2 s.heap s.heap.size (Nat.le_refl _)  p e ha hc hk s m _ below hf ((Spec.applies_iff_loose hf).mp happ).1 ⟨rfl, State.Warmed39.refl s, rfl⟩ trivial
  refine ⟨n, _, h1, h2, h3, hpost _ _ _ _ _ _ ⟨Cond.after_iff.mpr rfl, Cond.after_iff.mpr (eq_i res_at (Term.int_eval (1)) rfl), trivial⟩ ⟨hq.1, hq.2.1, (hq.2.2.sift fun y hy => Or.inr (N y hy)).mono (by decide) (by decide)⟩⟩
theorem main_1_1 : Claimed_1_1 := comes_1 fun _ _ _ _ _ _ h hF => ⟨h.1, Jvm.RoadKit.wide hF⟩
theorem main_1_2 : Claimed_1_2 := comes_1 fun _ _ _ _ _ _ h hF => ⟨h.2.1, Jvm.RoadKit.wide hF⟩
end Jvm.Pilot.@@N@@
namespace Jvm.Pilot.@@N@@
open Jvm Jvm.ClassFile Sem Op Lib Jvm.Free Jvm.Stand Jvm.Pilot.@@N@@.Jvm.D
/-! MADE BY PROGRAM (witnessworld.py) out of the Statement's table words and the real class files: 24 classes; the members and pool entries that the words name. The judged class is class 1, her method 1. -/
namespace start1
open Jvm.ClassFile
def u (s : String) : CpInfo := .utf8 (stringToUtf16 s)
/-- a pool by its gaps: so many unusable entries, then the entry; so many at the end -/
def gap : Nat → List CpInfo → List CpInfo
  | 0, r => r
  | n + 1, r => .unusable :: gap n r
def poolList (es : List (Nat × CpInfo)) (last : Nat) : List CpInfo := es.foldr (fun e r => gap e.1 (e.2 :: r)) (gap last [])
def pool (es : List (Nat × CpInfo)) (last : Nat) : Array CpInfo := ⟨poolList es last⟩
def fileOf (pool : Array CpInfo) (this : Nat) (attrs : Array Attribute := #[]) (ms : Array MethodInfo := #[]) (fl : Nat := 33) (sup : Nat := 0) (ifs : Array Nat := #[]) (fds : Array FieldInfo := #[]) : ClassFile where
  minorVersion := 0
  majorVersion := 65
  constantPool := pool
  accessFlags := fl
  thisClass := this
  superClass := sup
  interfaces := ifs
  fields := fds
  methods := ms
  attributes := attrs
def plain (name : String) (sup : Option ClassId) : Class where
  name := name
  kind := .ordinary
  loader := none
  accessFlags := 33
  super := sup
  interfaces := #[]
  cf := none
  fields := #[]
  methods := #[]
  instanceTypes := #[]
  staticTypes := #[]
  resolved := #[]
  callSites := []
  init := .initialized
  statics := none
  mirror := none

def pool0 : Array CpInfo := pool [(5, u "<init>"), (0, u "()V"), (1, .class_ 10), (1, u "java/lang/Object")] 113

def k0c0 : Code := { maxStack := 0, maxLocals := 1, code := object_method_1_code, exceptionTable := #[], attributes := #[] }
def k0m0 : Method := { name := "<init>", desc := "()V", sig := { parameters := [], returnType := none }, accessFlags := 1, code := some k0c0 }
/-- java/lang/Object -/
def k0 : Class := { plain "java/lang/Object" none with
  accessFlags := 33
  interfaces := #[]
  cf := some (fileOf pool0 8 #[] #[{ accessFlags := 1, nameIndex := 5, descriptorIndex := 6, attributes := #[] }] 33 0 #[] #[])
  fields := #[]
  methods := #[k0m0]
  instanceTypes := #[]
  staticTypes := #[]
  resolved := Array.replicate 124 none
  statics := none }

def pool1 : Array CpInfo := pool [(2, .class_ 4), (0, .nameAndType 5 6), (0, u "java/lang/Object"), (0, u "<init>"), (0, u "()V"), (0, .class_ 8), (0, u "com/example/tideline/tideline/session/FetcherSession"), (0, .methodref 7 3), (0, .methodref 7 11), (0, .nameAndType 12 13), (0, u "next"), (0, u "()Lcom/example/tideline/tideline/session/FetcherSession$Request;"), (0, .methodref 7 15), (0, .nameAndType 16 17), (0, u "accepted"), (0, u "(I)V"), (0, .methodref 7 19), (0, .nameAndType 20 21), (0, u "startOver"), (0, u "(S)Z"), (0, .methodref 7 23), (0, .nameAndType 24 25), (0, u "incremental"), (0, u "()Z"), (0, .methodref 27 28), (0, .class_ 29), (0, .nameAndType 30 31), (0, u "com/example/tideline/tideline/session/FetcherSession$Request"), (0, u "sessionId"), (0, u "()I"), (0, .methodref 27 33), (0, .nameAndType 34 31), (0, u "epoch"), (0, .class_ 36), (0, u "com/example/tideline/tideline/session/FetcherSessionStartOverPinLaw"), (2, u "law"), (0, u "(III)Z")] 5

def k1m0 : Method := { name := "<init>", desc := "()V", sig := { parameters := [], returnType := none }, accessFlags := 1, code := none }
def k1c1 : Code := { maxStack := 2, maxLocals := 15, code := code, exceptionTable := #[], attributes := #[] }
def k1m1 : Method := { name := "law", desc := "(III)Z", sig := { parameters := [.int, .int, .int], returnType := some .boolean }, accessFlags := 9, code := some k1c1 }
/-- com/example/tideline/tideline/session/FetcherSessionStartOverPinLaw -/
def k1 : Class := { plain "com/example/tideline/tideline/session/FetcherSessionStartOverPinLaw" (some 0) with
  accessFlags := 49
  interfaces := #[]
  cf := some (fileOf pool1 35 #[] #[{ accessFlags := 1, nameIndex := 5, descriptorIndex := 6, attributes := #[] }, { accessFlags := 9, nameIndex := 39, descriptorIndex := 40, attributes := #[] }] 49 2 #[] #[])
  fields := #[]
  methods := #[k1m0, k1m1]
  instanceTypes := #[]
  staticTypes := #[]
  resolved := Array.replicate 46 none
  statics := none }

def pool2 : Array CpInfo := pool [(1, .methodref 2 3), (0, .class_ 4), (0, .nameAndType 5 6), (0, u "java/lang/Object"), (0, u "<init>"), (0, u "()V"), (0, .class_ 8), (0, u "com/example/tideline/tideline/session/FetchSession"), (0, .fieldref 10 11), (0, .class_ 12), (0, .nameAndType 13 14), (0, u "com/example/tideline/tideline/session/FetcherSession"), (0, u "epoch"), (0, u "I"), (0, .class_ 16), (0, u "com/example/tideline/tideline/session/FetchSession$Partitions"), (0, .methodref 15 3), (0, .fieldref 10 19), (0, .nameAndType 20 21), (0, u "held"), (0, u "Lcom/example/tideline/tideline/session/FetchSession$Partitions;"), (0, .fieldref 10 23), (0, .nameAndType 24 21), (0, u "listing"), (0, .fieldref 10 26), (0, .nameAndType 27 21), (0, u "forgetting"), (14, .methodref 15 43), (0, .nameAndType 44 45), (0, u "put"), (0, u "(Ljava/lang/String;ILjava/lang/Object;)V"), (0, .fieldref 10 47), (0, .nameAndType 48 49), (0, u "pending"), (0, u "Lcom/example/tideline/tideline/session/FetcherSession$Request;"), (0, .methodref 51 52), (0, .class_ 53), (0, .nameAndType 54 55), (0, u "com/example/tideline/tideline/session/FetcherSession$Request"), (0, u "listed"), (0, u "()Lcom/example/tideline/tideline/session/FetchSession$Partitions;"), (10, .fieldref 10 67), (0, .nameAndType 68 14), (0, u "id"), (0, .methodref 51 70), (0, .nameAndType 5 71), (0, u "(IILcom/example/tideline/tideline/session/FetchSession$Partitions;Lcom/example/tideline/tideline/session/FetchSession$Partitions;)V"), (0, .methodref 7 73), (0, .nameAndType 74 75), (0, u "epochAfter"), (0, u "(I)I"), (0, .methodref 77 78), (0, .class_ 79), (0, .nameAndType 80 81), (0, u "java/util/Objects"), (0, u "requireNonNull"), (0, u "(Ljava/lang/Object;)Ljava/lang/Object;"), (0, .invokeDynamic 0 83), (0, .nameAndType 84 85), (0, u "accept"), (0, u "(Lcom/example/tideline/tideline/session/FetchSession$Partitions;)Lcom/example/tideline/tideline/session/FetchSession$Partitions$Each;"), (0, .methodref 15 87), (0, .nameAndType 88 89), (0, u "forEach"), (0, u "(Lcom/example/tideline/tideline/session/FetchSession$Partitions$Each;)V"), (0, .methodref 51 91), (0, .nameAndType 92 55), (0, u "forgotten"), (0, .invokeDynamic 1 94), (0, .nameAndType 84 95), (0, u "(Lcom/example/tideline/tideline/session/FetcherSession;)Lcom/example/tideline/tideline/session/FetchSession$Partitions$Each;"), (8, u "(Ljava/lang/String;ILcom/example/tideline/tideline/session/FetchSession$Sent;)V"), (2, u "next"), (0, u "()Lcom/example/tideline/tideline/session/FetcherSession$Request;"), (0, u "accepted"), (0, u "(I)V"), (1, u "incremental"), (0, u "()Z"), (0, u "startOver"), (0, u "(S)Z"), (0, u "lambda$accepted$0"), (0, u "(Ljava/lang/String;ILjava/lang/Boolean;)V"), (4, .methodType 45), (0, .methodHandle 5 42), (0, .methodType 104), (0, .methodHandle 5 126), (0, .methodref 10 127), (0, .nameAndType 116 117), (0, .methodType 117), (0, .methodHandle 6 130), (0, .methodref 131 132), (0, .class_ 133), (0, .nameAndType 134 135), (0, u "java/lang/invoke/LambdaMetafactory"), (0, u "metafactory"), (0, u "(Ljava/lang/invoke/MethodHandles$Lookup;Ljava/lang/String;Ljava/lang/invoke/MethodType;Ljava/lang/invoke/MethodType;Ljava/lang/invoke/MethodHandle;Ljava/lang/invoke/MethodType;)Ljava/lang/invoke/CallSite;")] 12

def k2c0 : Code := { maxStack := 3, maxLocals := 1, code := prog_253_method_1_code, exceptionTable := #[], attributes := #[] }
def k2m0 : Method := { name := "<init>", desc := "()V", sig := { parameters := [], returnType := none }, accessFlags := 1, code := some k2c0 }
def k2c1 : Code := { maxStack := 7, maxLocals := 1, code := prog_253_method_4_code, exceptionTable := #[], attributes := #[] }
def k2m1 : Method := { name := "next", desc := "()Lcom/example/tideline/tideline/session/FetcherSession$Request;", sig := { parameters := [], returnType := some (.object "com/example/tideline/tideline/session/FetcherSession$Request") }, accessFlags := 1, code := some k2c1 }
def k2c2 : Code := { maxStack := 3, maxLocals := 2, code := prog_253_method_5_code, exceptionTable := #[], attributes := #[] }
def k2m2 : Method := { name := "accepted", desc := "(I)V", sig := { parameters := [.int], returnType := none }, accessFlags := 1, code := some k2c2 }
def k2c3 : Code := { maxStack := 1, maxLocals := 1, code := prog_253_method_7_code, exceptionTable := #[], attributes := #[] }
def k2m3 : Method := { name := "incremental", desc := "()Z", sig := { parameters := [], returnType := some .boolean }, accessFlags := 1, code := some k2c3 }
def k2c4 : Code := { maxStack := 2, maxLocals := 2, code := prog_253_method_8_code, exceptionTable := #[], attributes := #[] }
def k2m4 : Method := { name := "startOver", desc := "(S)Z", sig := { parameters := [.short], returnType := some .boolean }, accessFlags := 1, code := some k2c4 }
def k2c5 : Code := { maxStack := 3, maxLocals := 4, code := ⟨#[0x2a, 0xb4, 0x00, 0x12, 0x2b, 0x1c, 0xb6, 0x00, 0x1c, 0xb1]⟩, exceptionTable := #[], attributes := #[] }
def k2m5 : Method := { name := "lambda$accepted$0", desc := "(Ljava/lang/String;ILjava/lang/Boolean;)V", sig := { parameters := [(.object "java/lang/String"), .int, (.object "java/lang/Boolean")], returnType := none }, accessFlags := 4098, code := some k2c5 }
/-- com/example/tideline/tideline/session/FetcherSession -/
def k2 : Class := { plain "com/example/tideline/tideline/session/FetcherSession" (some 0) with
  accessFlags := 49
  interfaces := #[]
  cf := some (fileOf pool2 10 #[.nestMembers #[51], .bootstrapMethods #[⟨129, #[122, 123, 124]⟩, ⟨129, #[122, 125, 128]⟩]] #[{ accessFlags := 1, nameIndex := 5, descriptorIndex := 6, attributes := #[] }, { accessFlags := 1, nameIndex := 107, descriptorIndex := 108, attributes := #[] }, { accessFlags := 1, nameIndex := 109, descriptorIndex := 110, attributes := #[] }, { accessFlags := 1, nameIndex := 112, descriptorIndex := 113, attributes := #[] }, { accessFlags := 1, nameIndex := 114, descriptorIndex := 115, attributes := #[] }, { accessFlags := 4098, nameIndex := 116, descriptorIndex := 117, attributes := #[] }] 49 2 #[] #[{ accessFlags := 2, nameIndex := 68, descriptorIndex := 14, attributes := #[] }, { accessFlags := 2, nameIndex := 13, descriptorIndex := 14, attributes := #[] }, { accessFlags := 2, nameIndex := 20, descriptorIndex := 21, attributes := #[] }, { accessFlags := 2, nameIndex := 48, descriptorIndex := 49, attributes := #[] }, { accessFlags := 2, nameIndex := 24, descriptorIndex := 21, attributes := #[] }, { accessFlags := 2, nameIndex := 27, descriptorIndex := 21, attributes := #[] }])
  fields := #[{ name := "id", type := .int, accessFlags := 2, slot := 0, constantValue := 0 }, { name := "epoch", type := .int, accessFlags := 2, slot := 1, constantValue := 0 }, { name := "held", type := (.object "com/example/tideline/tideline/session/FetchSession$Partitions"), accessFlags := 2, slot := 2, constantValue := 0 }, { name := "pending", type := (.object "com/example/tideline/tideline/session/FetcherSession$Request"), accessFlags := 2, slot := 3, constantValue := 0 }, { name := "listing", type := (.object "com/example/tideline/tideline/session/FetchSession$Partitions"), accessFlags := 2, slot := 4, constantValue := 0 }, { name := "forgetting", type := (.object "com/example/tideline/tideline/session/FetchSession$Partitions"), accessFlags := 2, slot := 5, constantValue := 0 }]
  methods := #[k2m0, k2m1, k2m2, k2m3, k2m4, k2m5]
  instanceTypes := #[.int, .int, (.object "com/example/tideline/tideline/session/FetchSession$Partitions"), (.object "com/example/tideline/tideline/session/FetcherSession$Request"), (.object "com/example/tideline/tideline/session/FetchSession$Partitions"), (.object "com/example/tideline/tideline/session/FetchSession$Partitions")]
  staticTypes := #[]
  resolved := Array.replicate 148 none
  callSites := [(2, 64, .makes 21), (2, 80, .makes 23)]
  statics := none }

def pool3 : Array CpInfo := pool [(1, .methodref 2 3), (0, .class_ 4), (0, .nameAndType 5 6), (0, u "java/lang/Object"), (0, u "<init>"), (0, u "()V"), (0, .class_ 8), (0, u "java/util/LinkedHashMap"), (0, .methodref 7 3), (0, .fieldref 11 12), (0, .class_ 13), (0, .nameAndType 14 15), (0, u "com/example/tideline/tideline/session/FetchSession$Partitions"), (0, u "byTopic"), (0, u "Ljava/util/Map;"), (12, u "bytes"), (0, u "J"), (1, .class_ 33), (1, u "java/util/Map"), (14, u "put"), (14, .invokeDynamic 0 64), (0, .nameAndType 65 66), (0, u "accept"), (0, u "(Lcom/example/tideline/tideline/session/FetchSession$Partitions$Each;)Ljava/util/function/BiConsumer;"), (0, .interfaceMethodref 31 68), (0, .nameAndType 69 70), (0, u "forEach"), (0, u "(Ljava/util/function/BiConsumer;)V"), (10, u "(Ljava/lang/String;ILjava/lang/Object;)V"), (0, u "PARTITION_BYTES"), (0, u "I"), (2, u "TOPIC_BYTES"), (15, u "(Lcom/example/tideline/tideline/session/FetchSession$Partitions$Each;)V"), (3, u "lambda$forEach$1"), (0, u "(Lcom/example/tideline/tideline/session/FetchSession$Partitions$Each;Ljava/lang/String;Ljava/util/Map;)V"), (6, .class_ 115), (0, u "com/example/tideline/tideline/session/FetchSession"), (1, .methodType 118), (0, u "(Ljava/lang/Object;Ljava/lang/Object;)V"), (0, .methodHandle 6 120), (0, .methodref 11 121), (0, .nameAndType 106 107), (0, .methodType 123), (0, u "(Ljava/lang/String;Ljava/util/Map;)V"), (5, .methodHandle 6 130), (0, .methodref 131 132), (0, .class_ 133), (0, .nameAndType 134 135), (0, u "java/lang/invoke/LambdaMetafactory"), (0, u "metafactory"), (0, u "(Ljava/lang/invoke/MethodHandles$Lookup;Ljava/lang/String;Ljava/lang/invoke/MethodType;Ljava/lang/invoke/MethodType;Ljava/lang/invoke/MethodHandle;Ljava/lang/invoke/MethodType;)Ljava/lang/invoke/CallSite;")] 8

def k3c0 : Code := { maxStack := 3, maxLocals := 1, code := prog_248_method_1_code, exceptionTable := #[], attributes := #[] }
def k3m0 : Method := { name := "<init>", desc := "()V", sig := { parameters := [], returnType := none }, accessFlags := 1, code := some k3c0 }
def k3c1 : Code := { maxStack := 5, maxLocals := 5, code := ⟨#[0x2a, 0xb4, 0x00, 0x0a, 0x2b, 0xb9, 0x00, 0x1e, 0x02, 0x00, 0xc0, 0x00, 0x1f, 0x3a, 0x04, 0x19, 0x04, 0xc7, 0x00, 0x26, 0xbb, 0x00, 0x07, 0x59, 0xb7, 0x00, 0x09, 0x3a, 0x04, 0x2a, 0xb4, 0x00, 0x0a, 0x2b, 0x19, 0x04, 0xb9, 0x00, 0x2e, 0x03, 0x00, 0x57, 0x2a, 0x59, 0xb4, 0x00, 0x1a, 0x2b, 0xb8, 0x00, 0x32, 0x61, 0xb5, 0x00, 0x1a, 0x19, 0x04, 0x1c, 0xb8, 0x00, 0x24, 0x2d, 0xb9, 0x00, 0x2e, 0x03, 0x00, 0xc7, 0x00, 0x0f, 0x2a, 0x59, 0xb4, 0x00, 0x1a, 0x14, 0x00, 0x36, 0x61, 0xb5, 0x00, 0x1a, 0xb1]⟩, exceptionTable := #[], attributes := #[] }
def k3m1 : Method := { name := "put", desc := "(Ljava/lang/String;ILjava/lang/Object;)V", sig := { parameters := [(.object "java/lang/String"), .int, (.object "java/lang/Object")], returnType := none }, accessFlags := 1, code := some k3c1 }
def k3c2 : Code := { maxStack := 2, maxLocals := 2, code := prog_248_method_9_code, exceptionTable := #[], attributes := #[] }
def k3m2 : Method := { name := "forEach", desc := "(Lcom/example/tideline/tideline/session/FetchSession$Partitions$Each;)V", sig := { parameters := [(.object "com/example/tideline/tideline/session/FetchSession$Partitions$Each")], returnType := none }, accessFlags := 0, code := some k3c2 }
def k3c3 : Code := { maxStack := 3, maxLocals := 3, code := ⟨#[0x2c, 0x2a, 0x2b, 0xba, 0x00, 0x47, 0x00, 0x00, 0xb9, 0x00, 0x43, 0x02, 0x00, 0xb1]⟩, exceptionTable := #[], attributes := #[] }
def k3m3 : Method := { name := "lambda$forEach$1", desc := "(Lcom/example/tideline/tideline/session/FetchSession$Partitions$Each;Ljava/lang/String;Ljava/util/Map;)V", sig := { parameters := [(.object "com/example/tideline/tideline/session/FetchSession$Partitions$Each"), (.object "java/lang/String"), (.object "java/util/Map")], returnType := none }, accessFlags := 4106, code := some k3c3 }
/-- com/example/tideline/tideline/session/FetchSession$Partitions -/
def k3 : Class := { plain "com/example/tideline/tideline/session/FetchSession$Partitions" (some 0) with
  accessFlags := 49
  interfaces := #[]
  cf := some (fileOf pool3 11 #[.nestHost 114, .bootstrapMethods #[⟨129, #[117, 119, 122]⟩, ⟨0, #[]⟩]] #[{ accessFlags := 1, nameIndex := 5, descriptorIndex := 6, attributes := #[] }, { accessFlags := 1, nameIndex := 48, descriptorIndex := 81, attributes := #[] }, { accessFlags := 0, nameIndex := 69, descriptorIndex := 102, attributes := #[] }, { accessFlags := 4106, nameIndex := 106, descriptorIndex := 107, attributes := #[] }] 49 2 #[] #[{ accessFlags := 25, nameIndex := 82, descriptorIndex := 83, attributes := #[] }, { accessFlags := 25, nameIndex := 86, descriptorIndex := 83, attributes := #[] }, { accessFlags := 18, nameIndex := 14, descriptorIndex := 15, attributes := #[] }, { accessFlags := 2, nameIndex := 28, descriptorIndex := 29, attributes := #[] }])
  fields := #[{ name := "PARTITION_BYTES", type := .int, accessFlags := 25, slot := 0, constantValue := 0 }, { name := "TOPIC_BYTES", type := .int, accessFlags := 25, slot := 1, constantValue := 0 }, { name := "byTopic", type := (.object "java/util/Map"), accessFlags := 18, slot := 0, constantValue := 0 }, { name := "bytes", type := .long, accessFlags := 2, slot := 1, constantValue := 0 }]
  methods := #[k3m0, k3m1, k3m2, k3m3]
  instanceTypes := #[(.object "java/util/Map"), .long]
  staticTypes := #[.int, .int]
  resolved := Array.replicate 144 none
  callSites := [(2, 5, .makes 22)]
  statics := none }

def pool4 : Array CpInfo := pool [(2, .class_ 4), (1, u "java/util/Map"), (31, .class_ 37), (0, u "java/util/Map$Entry"), (55, .class_ 94), (0, u "java/lang/Object"), (58, u "forEach"), (0, u "(Ljava/util/function/BiConsumer;)V")] 108

def k4c0 : Code := { maxStack := 3, maxLocals := 7, code := ⟨#[0x2b, 0xb8, 0x00, 0x0b, 0x57, 0x2a, 0xb9, 0x00, 0x10, 0x01, 0x00, 0xb9, 0x00, 0x14, 0x01, 0x00, 0x4d, 0x2c, 0xb9, 0x00, 0x1a, 0x01, 0x00, 0x99, 0x00, 0x39, 0x2c, 0xb9, 0x00, 0x20, 0x01, 0x00, 0xc0, 0x00, 0x24, 0x4e, 0x2d, 0xb9, 0x00, 0x26, 0x01, 0x00, 0x3a, 0x04, 0x2d, 0xb9, 0x00, 0x29, 0x01, 0x00, 0x3a, 0x05, 0xa7, 0x00, 0x0f, 0x3a, 0x06, 0xbb, 0x00, 0x2e, 0x59, 0x19, 0x06, 0xb7, 0x00, 0x30, 0xbf, 0x2b, 0x19, 0x04, 0x19, 0x05, 0xb9, 0x00, 0x34, 0x03, 0x00, 0xa7, 0xff, 0xc4, 0xb1]⟩, exceptionTable := #[{ startPc := 36, endPc := 52, handlerPc := 55, catchType := 44 }], attributes := #[] }
def k4m0 : Method := { name := "forEach", desc := "(Ljava/util/function/BiConsumer;)V", sig := { parameters := [(.object "java/util/function/BiConsumer")], returnType := none }, accessFlags := 1, code := some k4c0 }
/-- java/util/Map -/
def k4 : Class := { plain "java/util/Map" (some 0) with
  accessFlags := 1537
  interfaces := #[]
  cf := some (fileOf pool4 2 #[.nestMembers #[36]] #[{ accessFlags := 1, nameIndex := 153, descriptorIndex := 154, attributes := #[] }] 1537 93 #[] #[])
  fields := #[]
  methods := #[k4m0]
  instanceTypes := #[]
  staticTypes := #[]
  resolved := Array.replicate 263 none
  statics := none }

def pool5 : Array CpInfo := pool [(1, .methodref 2 3), (0, .class_ 4), (0, .nameAndType 5 6), (0, u "java/lang/Object"), (0, u "<init>"), (0, u "()V"), (1, .class_ 10), (1, u "java/util/AbstractMap"), (42, .class_ 54), (0, u "java/util/Map"), (9, u "keySet"), (0, u "Ljava/util/Set;"), (0, .class_ 67), (0, u "java/util/AbstractMap$1"), (5, u "values"), (0, u "Ljava/util/Collection;"), (0, .class_ 76), (0, u "java/util/AbstractMap$2"), (104, .class_ 182), (0, u "java/util/AbstractMap$ViewCollection"), (0, .class_ 184), (0, u "java/util/AbstractMap$SimpleImmutableEntry"), (0, .class_ 186), (0, u "java/util/AbstractMap$SimpleEntry"), (0, .class_ 188), (0, u "java/util/AbstractMap$2$1"), (0, .class_ 190), (0, u "java/util/AbstractMap$1$1")] 5

def k5c0 : Code := { maxStack := 1, maxLocals := 1, code := jdk_71_method_1_code, exceptionTable := #[], attributes := #[] }
def k5m0 : Method := { name := "<init>", desc := "()V", sig := { parameters := [], returnType := none }, accessFlags := 4, code := some k5c0 }
/-- java/util/AbstractMap -/
def k5 : Class := { plain "java/util/AbstractMap" (some 0) with
  accessFlags := 1057
  interfaces := #[4]
  cf := some (fileOf pool5 8 #[.nestMembers #[181, 183, 185, 75, 187, 66, 189]] #[{ accessFlags := 4, nameIndex := 5, descriptorIndex := 6, attributes := #[] }] 1057 2 #[53] #[{ accessFlags := 128, nameIndex := 64, descriptorIndex := 65, attributes := #[] }, { accessFlags := 128, nameIndex := 73, descriptorIndex := 74, attributes := #[] }])
  fields := #[{ name := "keySet", type := (.object "java/util/Set"), accessFlags := 128, slot := 0, constantValue := 0 }, { name := "values", type := (.object "java/util/Collection"), accessFlags := 128, slot := 1, constantValue := 0 }]
  methods := #[k5m0]
  instanceTypes := #[(.object "java/util/Set"), (.object "java/util/Collection")]
  staticTypes := #[]
  resolved := Array.replicate 196 none
  statics := none }

def pool6 : Array CpInfo := pool [(1, .class_ 2), (0, u "java/lang/Cloneable"), (0, .class_ 4), (0, u "java/lang/Object")] 2

/-- java/lang/Cloneable -/
def k6 : Class := { plain "java/lang/Cloneable" (some 0) with
  accessFlags := 1537
  interfaces := #[]
  cf := some (fileOf pool6 1 #[] #[] 1537 3 #[] #[])
  fields := #[]
  methods := #[]
  instanceTypes := #[]
  staticTypes := #[]
  resolved := Array.replicate 7 none
  statics := none }

def pool7 : Array CpInfo := pool [(1, .class_ 2), (0, u "java/io/Serializable"), (0, .class_ 4), (0, u "java/lang/Object")] 2

/-- java/io/Serializable -/
def k7 : Class := { plain "java/io/Serializable" (some 0) with
  accessFlags := 1537
  interfaces := #[]
  cf := some (fileOf pool7 1 #[] #[] 1537 3 #[] #[])
  fields := #[]
  methods := #[]
  instanceTypes := #[]
  staticTypes := #[]
  resolved := Array.replicate 7 none
  statics := none }

def pool8 : Array CpInfo := pool [(40, .class_ 41), (0, u "java/util/HashMap"), (1, .methodref 44 45), (0, .class_ 46), (0, .nameAndType 47 48), (0, u "java/util/AbstractMap"), (0, u "<init>"), (0, u "()V"), (32, .fieldref 40 82), (0, .nameAndType 83 84), (0, u "loadFactor"), (0, u "F"), (5, u "threshold"), (0, u "I"), (0, .float 1061158912), (8, .class_ 103), (1, u "java/util/Map"), (0, u "size"), (2, u "table"), (0, u "[Ljava/util/HashMap$Node;"), (14, u "entrySet"), (39, .class_ 165), (1, u "java/util/HashMap$Node"), (14, .class_ 181), (0, u "java/util/HashMap$TreeNode"), (22, u "modCount"), (37, u "Ljava/util/Set;"), (0, .class_ 244), (0, u "java/util/HashMap$KeySet"), (18, .class_ 264), (0, u "java/util/HashMap$Values"), (3, .class_ 269), (0, u "java/util/HashMap$EntrySet"), (76, .class_ 348), (1, u "java/util/HashMap$UnsafeHolder"), (43, .class_ 393), (0, u "java/lang/Cloneable"), (0, .class_ 395), (0, u "java/io/Serializable"), (0, u "serialVersionUID"), (0, u "J"), (3, u "DEFAULT_INITIAL_CAPACITY"), (1, u "MAXIMUM_CAPACITY"), (0, u "DEFAULT_LOAD_FACTOR"), (0, u "TREEIFY_THRESHOLD"), (1, u "UNTREEIFY_THRESHOLD"), (1, u "MIN_TREEIFY_CAPACITY"), (186, .class_ 597), (0, u "java/util/HashMap$EntrySpliterator"), (0, .class_ 599), (0, u "java/util/HashMap$ValueSpliterator"), (0, .class_ 601), (0, u "java/util/HashMap$KeySpliterator"), (0, .class_ 603), (0, u "java/util/HashMap$HashMapSpliterator"), (0, .class_ 605), (0, u "java/util/HashMap$EntryIterator"), (0, .class_ 607), (0, u "java/util/HashMap$ValueIterator"), (0, .class_ 609), (0, u "java/util/HashMap$KeyIterator"), (0, .class_ 611), (0, u "java/util/HashMap$HashIterator")] 17

def k8c0 : Code := { maxStack := 2, maxLocals := 1, code := jdk_69_method_7_code, exceptionTable := #[], attributes := #[] }
def k8m0 : Method := { name := "<init>", desc := "()V", sig := { parameters := [], returnType := none }, accessFlags := 1, code := some k8c0 }
/-- java/util/HashMap -/
def k8 : Class := { plain "java/util/HashMap" (some 5) with
  accessFlags := 33
  interfaces := #[4, 6, 7]
  cf := some (fileOf pool8 40 #[.nestMembers #[180, 596, 598, 600, 602, 604, 606, 608, 610, 346, 268, 263, 243, 163]] #[{ accessFlags := 1, nameIndex := 47, descriptorIndex := 48, attributes := #[] }] 33 44 #[101, 392, 394] #[{ accessFlags := 26, nameIndex := 396, descriptorIndex := 397, attributes := #[] }, { accessFlags := 24, nameIndex := 401, descriptorIndex := 91, attributes := #[] }, { accessFlags := 24, nameIndex := 403, descriptorIndex := 91, attributes := #[] }, { accessFlags := 24, nameIndex := 404, descriptorIndex := 84, attributes := #[] }, { accessFlags := 24, nameIndex := 405, descriptorIndex := 91, attributes := #[] }, { accessFlags := 24, nameIndex := 407, descriptorIndex := 91, attributes := #[] }, { accessFlags := 24, nameIndex := 409, descriptorIndex := 91, attributes := #[] }, { accessFlags := 128, nameIndex := 107, descriptorIndex := 108, attributes := #[] }, { accessFlags := 128, nameIndex := 123, descriptorIndex := 242, attributes := #[] }, { accessFlags := 128, nameIndex := 104, descriptorIndex := 91, attributes := #[] }, { accessFlags := 128, nameIndex := 204, descriptorIndex := 91, attributes := #[] }, { accessFlags := 0, nameIndex := 90, descriptorIndex := 91, attributes := #[] }, { accessFlags := 16, nameIndex := 83, descriptorIndex := 84, attributes := #[] }])
  fields := #[{ name := "serialVersionUID", type := .long, accessFlags := 26, slot := 0, constantValue := 0 }, { name := "DEFAULT_INITIAL_CAPACITY", type := .int, accessFlags := 24, slot := 1, constantValue := 0 }, { name := "MAXIMUM_CAPACITY", type := .int, accessFlags := 24, slot := 2, constantValue := 0 }, { name := "DEFAULT_LOAD_FACTOR", type := .float, accessFlags := 24, slot := 3, constantValue := 0 }, { name := "TREEIFY_THRESHOLD", type := .int, accessFlags := 24, slot := 4, constantValue := 0 }, { name := "UNTREEIFY_THRESHOLD", type := .int, accessFlags := 24, slot := 5, constantValue := 0 }, { name := "MIN_TREEIFY_CAPACITY", type := .int, accessFlags := 24, slot := 6, constantValue := 0 }, { name := "table", type := (.array (.object "java/util/HashMap$Node")), accessFlags := 128, slot := 2, constantValue := 0 }, { name := "entrySet", type := (.object "java/util/Set"), accessFlags := 128, slot := 3, constantValue := 0 }, { name := "size", type := .int, accessFlags := 128, slot := 4, constantValue := 0 }, { name := "modCount", type := .int, accessFlags := 128, slot := 5, constantValue := 0 }, { name := "threshold", type := .int, accessFlags := 0, slot := 6, constantValue := 0 }, { name := "loadFactor", type := .float, accessFlags := 16, slot := 7, constantValue := 0 }]
  methods := #[k8m0]
  instanceTypes := #[(.object "java/util/Set"), (.object "java/util/Collection"), (.array (.object "java/util/HashMap$Node")), (.object "java/util/Set"), .int, .int, .int, .float]
  staticTypes := #[.long, .int, .int, .float, .int, .int, .int]
  resolved := Array.replicate 629 none
  statics := none }

def pool9 : Array CpInfo := pool [(2, .class_ 4), (1, u "java/util/SequencedMap"), (38, .class_ 44), (0, u "java/util/SequencedMap$1SeqKeySet"), (3, .class_ 49), (0, u "java/util/SequencedMap$1SeqValues"), (1, .class_ 52), (0, u "java/util/SequencedMap$1SeqEntrySet"), (1, .class_ 55), (0, u "java/lang/Object"), (0, .class_ 57), (0, u "java/util/Map")] 48

/-- java/util/SequencedMap -/
def k9 : Class := { plain "java/util/SequencedMap" (some 0) with
  accessFlags := 1537
  interfaces := #[4]
  cf := some (fileOf pool9 2 #[.nestMembers #[51, 48, 43]] #[] 1537 54 #[56] #[])
  fields := #[]
  methods := #[]
  instanceTypes := #[]
  staticTypes := #[]
  resolved := Array.replicate 106 none
  statics := none }

def pool10 : Array CpInfo := pool [(1, .fieldref 2 3), (0, .class_ 4), (0, .nameAndType 5 6), (0, u "java/util/LinkedHashMap"), (0, u "putMode"), (0, u "I"), (0, .fieldref 2 8), (0, .nameAndType 9 10), (0, u "head"), (0, u "Ljava/util/LinkedHashMap$Entry;"), (2, u "tail"), (1, .class_ 17), (1, u "java/util/LinkedHashMap$Entry"), (5, .class_ 25), (1, u "java/util/HashMap"), (1, u "()V"), (2, u "<init>"), (33, .fieldref 2 65), (0, .nameAndType 66 67), (0, u "accessOrder"), (0, u "Z"), (0, .fieldref 2 69), (0, .nameAndType 70 6), (0, u "modCount"), (16, .methodref 23 88), (0, .nameAndType 30 27), (32, .class_ 122), (0, u "java/util/LinkedHashMap$LinkedKeySet"), (20, .class_ 144), (0, u "java/util/LinkedHashMap$LinkedValues"), (9, .class_ 155), (0, u "java/util/LinkedHashMap$LinkedEntrySet"), (44, .class_ 201), (0, u "java/util/LinkedHashMap$ReversedLinkedHashMapView"), (3, .class_ 206), (0, u "java/util/SequencedMap"), (0, u "serialVersionUID"), (0, u "J"), (5, u "PUT_NORM"), (1, u "PUT_FIRST"), (1, u "PUT_LAST"), (120, u "forEach"), (0, u "(Ljava/util/function/BiConsumer;)V"), (21, .class_ 363), (0, u "java/util/LinkedHashMap$LinkedEntryIterator"), (0, .class_ 365), (0, u "java/util/LinkedHashMap$LinkedValueIterator"), (0, .class_ 367), (0, u "java/util/LinkedHashMap$LinkedKeyIterator"), (0, .class_ 369), (0, u "java/util/LinkedHashMap$LinkedHashIterator")] 16

def k10c0 : Code := { maxStack := 2, maxLocals := 1, code := jdk_94_method_16_code, exceptionTable := #[], attributes := #[] }
def k10m0 : Method := { name := "<init>", desc := "()V", sig := { parameters := [], returnType := none }, accessFlags := 1, code := some k10c0 }
def k10c1 : Code := { maxStack := 3, maxLocals := 4, code := jdk_94_method_34_code, exceptionTable := #[], attributes := #[] }
def k10m1 : Method := { name := "forEach", desc := "(Ljava/util/function/BiConsumer;)V", sig := { parameters := [(.object "java/util/function/BiConsumer")], returnType := none }, accessFlags := 1, code := some k10c1 }
/-- java/util/LinkedHashMap -/
def k10 : Class := { plain "java/util/LinkedHashMap" (some 8) with
  accessFlags := 33
  interfaces := #[9]
  cf := some (fileOf pool10 2 #[.nestMembers #[200, 362, 364, 366, 368, 154, 143, 121, 15]] #[{ accessFlags := 1, nameIndex := 30, descriptorIndex := 27, attributes := #[] }, { accessFlags := 1, nameIndex := 339, descriptorIndex := 340, attributes := #[] }] 33 23 #[205] #[{ accessFlags := 26, nameIndex := 207, descriptorIndex := 208, attributes := #[] }, { accessFlags := 128, nameIndex := 9, descriptorIndex := 10, attributes := #[] }, { accessFlags := 128, nameIndex := 13, descriptorIndex := 10, attributes := #[] }, { accessFlags := 16, nameIndex := 66, descriptorIndex := 67, attributes := #[] }, { accessFlags := 24, nameIndex := 214, descriptorIndex := 6, attributes := #[] }, { accessFlags := 24, nameIndex := 216, descriptorIndex := 6, attributes := #[] }, { accessFlags := 24, nameIndex := 218, descriptorIndex := 6, attributes := #[] }, { accessFlags := 128, nameIndex := 5, descriptorIndex := 6, attributes := #[] }])
  fields := #[{ name := "serialVersionUID", type := .long, accessFlags := 26, slot := 0, constantValue := 0 }, { name := "head", type := (.object "java/util/LinkedHashMap$Entry"), accessFlags := 128, slot := 8, constantValue := 0 }, { name := "tail", type := (.object "java/util/LinkedHashMap$Entry"), accessFlags := 128, slot := 9, constantValue := 0 }, { name := "accessOrder", type := .boolean, accessFlags := 16, slot := 10, constantValue := 0 }, { name := "PUT_NORM", type := .int, accessFlags := 24, slot := 1, constantValue := 0 }, { name := "PUT_FIRST", type := .int, accessFlags := 24, slot := 2, constantValue := 0 }, { name := "PUT_LAST", type := .int, accessFlags := 24, slot := 3, constantValue := 0 }, { name := "putMode", type := .int, accessFlags := 128, slot := 11, constantValue := 0 }]
  methods := #[k10m0, k10m1]
  instanceTypes := #[(.object "java/util/Set"), (.object "java/util/Collection"), (.array (.object "java/util/HashMap$Node")), (.object "java/util/Set"), .int, .int, .int, .float, (.object "java/util/LinkedHashMap$Entry"), (.object "java/util/LinkedHashMap$Entry"), .boolean, .int]
  staticTypes := #[.long, .int, .int, .int]
  resolved := Array.replicate 386 none
  statics := none }

def pool11 : Array CpInfo := pool [(1, .methodref 2 3), (0, .class_ 4), (0, .nameAndType 5 6), (0, u "java/lang/Object"), (0, u "<init>"), (0, u "()V"), (0, .class_ 8), (0, u "java/lang/Record")] 13

def k11c0 : Code := { maxStack := 1, maxLocals := 1, code := jdk_30_method_1_code, exceptionTable := #[], attributes := #[] }
def k11m0 : Method := { name := "<init>", desc := "()V", sig := { parameters := [], returnType := none }, accessFlags := 4, code := some k11c0 }
/-- java/lang/Record -/
def k11 : Class := { plain "java/lang/Record" (some 0) with
  accessFlags := 1057
  interfaces := #[]
  cf := some (fileOf pool11 7 #[] #[{ accessFlags := 4, nameIndex := 5, descriptorIndex := 6, attributes := #[] }] 1057 2 #[] #[])
  fields := #[]
  methods := #[k11m0]
  instanceTypes := #[]
  staticTypes := #[]
  resolved := Array.replicate 22 none
  statics := none }

def pool12 : Array CpInfo := pool [(1, .methodref 2 3), (0, .class_ 4), (0, .nameAndType 5 6), (0, u "java/lang/Record"), (0, u "<init>"), (0, u "()V"), (0, .fieldref 8 9), (0, .class_ 10), (0, .nameAndType 11 12), (0, u "com/example/tideline/tideline/session/FetcherSession$Request"), (0, u "sessionId"), (0, u "I"), (0, .fieldref 8 14), (0, .nameAndType 15 12), (0, u "epoch"), (0, .fieldref 8 17), (0, .nameAndType 18 19), (0, u "listed"), (0, u "Lcom/example/tideline/tideline/session/FetchSession$Partitions;"), (0, .fieldref 8 21), (0, .nameAndType 22 19), (0, u "forgotten"), (15, u "(IILcom/example/tideline/tideline/session/FetchSession$Partitions;Lcom/example/tideline/tideline/session/FetchSession$Partitions;)V"), (5, u "()I"), (1, u "()Lcom/example/tideline/tideline/session/FetchSession$Partitions;"), (5, .class_ 53), (0, u "com/example/tideline/tideline/session/FetcherSession")] 30

def k12c0 : Code := { maxStack := 2, maxLocals := 5, code := prog_254_method_1_code, exceptionTable := #[], attributes := #[] }
def k12m0 : Method := { name := "<init>", desc := "(IILcom/example/tideline/tideline/session/FetchSession$Partitions;Lcom/example/tideline/tideline/session/FetchSession$Partitions;)V", sig := { parameters := [.int, .int, (.object "com/example/tideline/tideline/session/FetchSession$Partitions"), (.object "com/example/tideline/tideline/session/FetchSession$Partitions")], returnType := none }, accessFlags := 1, code := some k12c0 }
def k12c1 : Code := { maxStack := 1, maxLocals := 1, code := prog_254_method_5_code, exceptionTable := #[], attributes := #[] }
def k12m1 : Method := { name := "sessionId", desc := "()I", sig := { parameters := [], returnType := some .int }, accessFlags := 1, code := some k12c1 }
def k12c2 : Code := { maxStack := 1, maxLocals := 1, code := prog_254_method_6_code, exceptionTable := #[], attributes := #[] }
def k12m2 : Method := { name := "epoch", desc := "()I", sig := { parameters := [], returnType := some .int }, accessFlags := 1, code := some k12c2 }
def k12c3 : Code := { maxStack := 1, maxLocals := 1, code := prog_254_method_7_code, exceptionTable := #[], attributes := #[] }
def k12m3 : Method := { name := "listed", desc := "()Lcom/example/tideline/tideline/session/FetchSession$Partitions;", sig := { parameters := [], returnType := some (.object "com/example/tideline/tideline/session/FetchSession$Partitions") }, accessFlags := 1, code := some k12c3 }
def k12c4 : Code := { maxStack := 1, maxLocals := 1, code := prog_254_method_8_code, exceptionTable := #[], attributes := #[] }
def k12m4 : Method := { name := "forgotten", desc := "()Lcom/example/tideline/tideline/session/FetchSession$Partitions;", sig := { parameters := [], returnType := some (.object "com/example/tideline/tideline/session/FetchSession$Partitions") }, accessFlags := 1, code := some k12c4 }
/-- com/example/tideline/tideline/session/FetcherSession$Request -/
def k12 : Class := { plain "com/example/tideline/tideline/session/FetcherSession$Request" (some 11) with
  accessFlags := 49
  interfaces := #[]
  cf := some (fileOf pool12 8 #[.nestHost 52] #[{ accessFlags := 1, nameIndex := 5, descriptorIndex := 38, attributes := #[] }, { accessFlags := 1, nameIndex := 11, descriptorIndex := 44, attributes := #[] }, { accessFlags := 1, nameIndex := 15, descriptorIndex := 44, attributes := #[] }, { accessFlags := 1, nameIndex := 18, descriptorIndex := 46, attributes := #[] }, { accessFlags := 1, nameIndex := 22, descriptorIndex := 46, attributes := #[] }] 49 2 #[] #[{ accessFlags := 18, nameIndex := 11, descriptorIndex := 12, attributes := #[] }, { accessFlags := 18, nameIndex := 15, descriptorIndex := 12, attributes := #[] }, { accessFlags := 18, nameIndex := 18, descriptorIndex := 19, attributes := #[] }, { accessFlags := 18, nameIndex := 22, descriptorIndex := 19, attributes := #[] }])
  fields := #[{ name := "sessionId", type := .int, accessFlags := 18, slot := 0, constantValue := 0 }, { name := "epoch", type := .int, accessFlags := 18, slot := 1, constantValue := 0 }, { name := "listed", type := (.object "com/example/tideline/tideline/session/FetchSession$Partitions"), accessFlags := 18, slot := 2, constantValue := 0 }, { name := "forgotten", type := (.object "com/example/tideline/tideline/session/FetchSession$Partitions"), accessFlags := 18, slot := 3, constantValue := 0 }]
  methods := #[k12m0, k12m1, k12m2, k12m3, k12m4]
  instanceTypes := #[.int, .int, (.object "com/example/tideline/tideline/session/FetchSession$Partitions"), (.object "com/example/tideline/tideline/session/FetchSession$Partitions")]
  staticTypes := #[]
  resolved := Array.replicate 84 none
  statics := none }

def pool13 : Array CpInfo := pool [(2, .class_ 4), (1, u "java/lang/Object"), (2, .class_ 8), (0, u "com/example/tideline/tideline/session/FetchSession$Partitions"), (2, .class_ 13), (1, u "com/example/tideline/tideline/session/FetchSession"), (0, u "partitions"), (0, u "Lcom/example/tideline/tideline/session/FetchSession$Partitions;"), (5, u "toAnswer"), (0, u "Ljava/util/List;"), (2, u "mark"), (0, u "B"), (2, u "nextEpoch"), (0, u "I"), (2, u "replicaId"), (2, u "woken"), (7, u "fetches"), (0, u "Lcom/example/tideline/tideline/partition/Replica$SessionFetches;"), (2, u "lastUsed"), (0, u "J"), (2, u "id"), (6, u "answer"), (0, u "Lcom/example/tideline/tideline/session/FetchSession$Answer;"), (5, .class_ 68), (1, u "com/example/tideline/tideline/session/FetchSession$Kept"), (12, .class_ 82), (0, u "com/example/tideline/tideline/session/FetchSession$Answer"), (15, u "waiting"), (0, u "Ljava/lang/Object;"), (2, u "epochAfter"), (0, u "(I)I"), (10, .integer 2147483647), (72, u "SESSIONLESS_EPOCH"), (2, u "OPENING_EPOCH"), (1, u "FIRST_EPOCH"), (1, u "NOT_TO_ANSWER"), (4, u "counted"), (37, .class_ 238), (0, u "com/example/tideline/tideline/session/FetchSession$Partitions$Each"), (0, .class_ 240), (0, u "com/example/tideline/tideline/session/FetchSession$Answered"), (0, .class_ 242), (0, u "com/example/tideline/tideline/session/FetchSession$Sent")] 31

def k13c0 : Code := { maxStack := 2, maxLocals := 1, code := prog_244_method_17_code, exceptionTable := #[], attributes := #[] }
def k13m0 : Method := { name := "epochAfter", desc := "(I)I", sig := { parameters := [.int], returnType := some .int }, accessFlags := 8, code := some k13c0 }
/-- com/example/tideline/tideline/session/FetchSession -/
def k13 : Class := { plain "com/example/tideline/tideline/session/FetchSession" (some 0) with
  accessFlags := 49
  interfaces := #[]
  cf := some (fileOf pool13 11 #[.nestMembers #[81, 7, 237, 66, 239, 241]] #[{ accessFlags := 8, nameIndex := 102, descriptorIndex := 103, attributes := #[] }] 49 2 #[] #[{ accessFlags := 25, nameIndex := 187, descriptorIndex := 30, attributes := #[] }, { accessFlags := 25, nameIndex := 190, descriptorIndex := 30, attributes := #[] }, { accessFlags := 24, nameIndex := 192, descriptorIndex := 30, attributes := #[] }, { accessFlags := 26, nameIndex := 194, descriptorIndex := 26, attributes := #[] }, { accessFlags := 2, nameIndex := 52, descriptorIndex := 30, attributes := #[] }, { accessFlags := 16, nameIndex := 33, descriptorIndex := 30, attributes := #[] }, { accessFlags := 18, nameIndex := 36, descriptorIndex := 22, attributes := #[] }, { accessFlags := 18, nameIndex := 14, descriptorIndex := 15, attributes := #[] }, { accessFlags := 2, nameIndex := 21, descriptorIndex := 22, attributes := #[] }, { accessFlags := 2, nameIndex := 25, descriptorIndex := 26, attributes := #[] }, { accessFlags := 2, nameIndex := 59, descriptorIndex := 60, attributes := #[] }, { accessFlags := 0, nameIndex := 199, descriptorIndex := 49, attributes := #[] }, { accessFlags := 18, nameIndex := 44, descriptorIndex := 45, attributes := #[] }, { accessFlags := 2, nameIndex := 98, descriptorIndex := 99, attributes := #[] }, { accessFlags := 2, nameIndex := 29, descriptorIndex := 30, attributes := #[] }, { accessFlags := 2, nameIndex := 48, descriptorIndex := 49, attributes := #[] }])
  fields := #[{ name := "SESSIONLESS_EPOCH", type := .int, accessFlags := 25, slot := 0, constantValue := 0 }, { name := "OPENING_EPOCH", type := .int, accessFlags := 25, slot := 1, constantValue := 0 }, { name := "FIRST_EPOCH", type := .int, accessFlags := 24, slot := 2, constantValue := 0 }, { name := "NOT_TO_ANSWER", type := .byte, accessFlags := 26, slot := 3, constantValue := 0 }, { name := "id", type := .int, accessFlags := 2, slot := 0, constantValue := 0 }, { name := "replicaId", type := .int, accessFlags := 16, slot := 1, constantValue := 0 }, { name := "woken", type := (.object "java/util/List"), accessFlags := 18, slot := 2, constantValue := 0 }, { name := "partitions", type := (.object "com/example/tideline/tideline/session/FetchSession$Partitions"), accessFlags := 18, slot := 3, constantValue := 0 }, { name := "toAnswer", type := (.object "java/util/List"), accessFlags := 2, slot := 4, constantValue := 0 }, { name := "mark", type := .byte, accessFlags := 2, slot := 5, constantValue := 0 }, { name := "answer", type := (.object "com/example/tideline/tideline/session/FetchSession$Answer"), accessFlags := 2, slot := 6, constantValue := 0 }, { name := "counted", type := .long, accessFlags := 0, slot := 7, constantValue := 0 }, { name := "fetches", type := (.object "com/example/tideline/tideline/partition/Replica$SessionFetches"), accessFlags := 18, slot := 8, constantValue := 0 }, { name := "waiting", type := (.object "java/lang/Object"), accessFlags := 2, slot := 9, constantValue := 0 }, { name := "nextEpoch", type := .int, accessFlags := 2, slot := 10, constantValue := 0 }, { name := "lastUsed", type := .long, accessFlags := 2, slot := 11, constantValue := 0 }]
  methods := #[k13m0]
  instanceTypes := #[.int, .int, (.object "java/util/List"), (.object "com/example/tideline/tideline/session/FetchSession$Partitions"), (.object "java/util/List"), .byte, (.object "com/example/tideline/tideline/session/FetchSession$Answer"), .long, (.object "com/example/tideline/tideline/partition/Replica$SessionFetches"), (.object "java/lang/Object"), .int, .long]
  staticTypes := #[.int, .int, .int, .byte]
  resolved := Array.replicate 274 none
  statics := none }

def pool14 : Array CpInfo := pool [(2, .class_ 4), (1, u "java/lang/Object"), (0, u "<init>"), (0, u "()V"), (35, .class_ 44), (1, u "java/util/Objects"), (0, u "requireNonNull"), (0, u "(Ljava/lang/Object;)Ljava/lang/Object;")] 137

def k14m0 : Method := { name := "<init>", desc := "()V", sig := { parameters := [], returnType := none }, accessFlags := 2, code := none }
def k14c1 : Code := { maxStack := 2, maxLocals := 1, code := jdk_31_method_10_code, exceptionTable := #[], attributes := #[] }
def k14m1 : Method := { name := "requireNonNull", desc := "(Ljava/lang/Object;)Ljava/lang/Object;", sig := { parameters := [(.object "java/lang/Object")], returnType := some (.object "java/lang/Object") }, accessFlags := 9, code := some k14c1 }
/-- java/util/Objects -/
def k14 : Class := { plain "java/util/Objects" (some 0) with
  accessFlags := 49
  interfaces := #[]
  cf := some (fileOf pool14 42 #[] #[{ accessFlags := 2, nameIndex := 5, descriptorIndex := 6, attributes := #[] }, { accessFlags := 9, nameIndex := 45, descriptorIndex := 46, attributes := #[] }] 49 2 #[] #[])
  fields := #[]
  methods := #[k14m0, k14m1]
  instanceTypes := #[]
  staticTypes := #[]
  resolved := Array.replicate 184 none
  statics := none }

def pool15 : Array CpInfo := pool [(1, .class_ 2), (0, u "com/example/tideline/tideline/session/FetchSession$Partitions$Each"), (0, .class_ 4), (0, u "java/lang/Object"), (0, u "accept"), (0, u "(Ljava/lang/String;ILjava/lang/Object;)V"), (6, .class_ 14), (0, u "com/example/tideline/tideline/session/FetchSession")] 5

def k15m0 : Method := { name := "accept", desc := "(Ljava/lang/String;ILjava/lang/Object;)V", sig := { parameters := [(.object "java/lang/String"), .int, (.object "java/lang/Object")], returnType := none }, accessFlags := 1025, code := none }
/-- com/example/tideline/tideline/session/FetchSession$Partitions$Each -/
def k15 : Class := { plain "com/example/tideline/tideline/session/FetchSession$Partitions$Each" (some 0) with
  accessFlags := 1536
  interfaces := #[]
  cf := some (fileOf pool15 1 #[.nestHost 13] #[{ accessFlags := 1025, nameIndex := 5, descriptorIndex := 6, attributes := #[] }] 1536 3 #[] #[])
  fields := #[]
  methods := #[k15m0]
  instanceTypes := #[]
  staticTypes := #[]
  resolved := Array.replicate 20 none
  statics := none }

def pool16 : Array CpInfo := pool [(9, u "accept"), (2, .class_ 14), (1, u "java/util/function/BiConsumer"), (0, u "(Ljava/lang/Object;Ljava/lang/Object;)V"), (0, .class_ 17), (0, u "java/lang/Object")] 42

def k16m0 : Method := { name := "accept", desc := "(Ljava/lang/Object;Ljava/lang/Object;)V", sig := { parameters := [(.object "java/lang/Object"), (.object "java/lang/Object")], returnType := none }, accessFlags := 1025, code := none }
/-- java/util/function/BiConsumer -/
def k16 : Class := { plain "java/util/function/BiConsumer" (some 0) with
  accessFlags := 1537
  interfaces := #[]
  cf := some (fileOf pool16 12 #[] #[{ accessFlags := 1025, nameIndex := 9, descriptorIndex := 15, attributes := #[] }] 1537 16 #[] #[])
  fields := #[]
  methods := #[k16m0]
  instanceTypes := #[]
  staticTypes := #[]
  resolved := Array.replicate 60 none
  statics := none }

/-- the primitive byte -/
def k17 : Class := { plain "byte" none with kind := .primitive 'B', accessFlags := 0x411 }
/-- [B -/
def k18 : Class := { plain "[B" (some 0) with kind := .array 17 .byte, interfaces := #[6, 7], accessFlags := 1041 }

/-- the primitive int -/
def k19 : Class := { plain "int" none with kind := .primitive 'I', accessFlags := 0x411 }
/-- [I -/
def k20 : Class := { plain "[I" (some 0) with kind := .array 19 .int, interfaces := #[6, 7], accessFlags := 1041 }

def classes0 : Array Class := #[k0, k1, k2, k3, k4, k5, k6, k7, k8, k9, k10, k11, k12, k13, k14, k15, k16, k17, k18, k19, k20]
/-- the class that the rule has made for the site at 64 of com/example/tideline/tideline/session/FetcherSession.accepted -/
def k21 : Class := Jvm.LamKit.madeRec { classes := classes0 } "com/example/tideline/tideline/session/FetcherSession" (Jvm.Lambda.Shape.mk "com/example/tideline/tideline/session/FetchSession$Partitions$Each" "accept" (Jvm.ClassFile.MethodDescriptor.mk ([(Jvm.ClassFile.FieldType.object "java/lang/String"), Jvm.ClassFile.FieldType.int, (Jvm.ClassFile.FieldType.object "java/lang/Object")] : List Jvm.ClassFile.FieldType) (Option.none : Option Jvm.ClassFile.FieldType)) ([(Jvm.ClassFile.FieldType.object "com/example/tideline/tideline/session/FetchSession$Partitions")] : List Jvm.ClassFile.FieldType) (5 : Nat) "com/example/tideline/tideline/session/FetchSession$Partitions" "put" (Jvm.ClassFile.MethodDescriptor.mk ([(Jvm.ClassFile.FieldType.object "java/lang/String"), Jvm.ClassFile.FieldType.int, (Jvm.ClassFile.FieldType.object "java/lang/Object")] : List Jvm.ClassFile.FieldType) (Option.none : Option Jvm.ClassFile.FieldType)) false (Jvm.ClassFile.MethodDescriptor.mk ([(Jvm.ClassFile.FieldType.object "java/lang/String"), Jvm.ClassFile.FieldType.int, (Jvm.ClassFile.FieldType.object "com/example/tideline/tideline/session/FetchSession$Sent")] : List Jvm.ClassFile.FieldType) (Option.none : Option Jvm.ClassFile.FieldType))) 21

/-- the class that the rule has made for the site at 5 of com/example/tideline/tideline/session/FetchSession$Partitions.forEach -/
def k22 : Class := Jvm.LamKit.madeRec { classes := classes0 } "com/example/tideline/tideline/session/FetchSession$Partitions" (Jvm.Lambda.Shape.mk "java/util/function/BiConsumer" "accept" (Jvm.ClassFile.MethodDescriptor.mk ([(Jvm.ClassFile.FieldType.object "java/lang/Object"), (Jvm.ClassFile.FieldType.object "java/lang/Object")] : List Jvm.ClassFile.FieldType) (Option.none : Option Jvm.ClassFile.FieldType)) ([(Jvm.ClassFile.FieldType.object "com/example/tideline/tideline/session/FetchSession$Partitions$Each")] : List Jvm.ClassFile.FieldType) (6 : Nat) "com/example/tideline/tideline/session/FetchSession$Partitions" "lambda$forEach$1" (Jvm.ClassFile.MethodDescriptor.mk ([(Jvm.ClassFile.FieldType.object "com/example/tideline/tideline/session/FetchSession$Partitions$Each"), (Jvm.ClassFile.FieldType.object "java/lang/String"), (Jvm.ClassFile.FieldType.object "java/util/Map")] : List Jvm.ClassFile.FieldType) (Option.none : Option Jvm.ClassFile.FieldType)) false (Jvm.ClassFile.MethodDescriptor.mk ([(Jvm.ClassFile.FieldType.object "java/lang/String"), (Jvm.ClassFile.FieldType.object "java/util/Map")] : List Jvm.ClassFile.FieldType) (Option.none : Option Jvm.ClassFile.FieldType))) 22

/-- the class that the rule has made for the site at 80 of com/example/tideline/tideline/session/FetcherSession.accepted -/
def k23 : Class := Jvm.LamKit.madeRec { classes := classes0 } "com/example/tideline/tideline/session/FetcherSession" (Jvm.Lambda.Shape.mk "com/example/tideline/tideline/session/FetchSession$Partitions$Each" "accept" (Jvm.ClassFile.MethodDescriptor.mk ([(Jvm.ClassFile.FieldType.object "java/lang/String"), Jvm.ClassFile.FieldType.int, (Jvm.ClassFile.FieldType.object "java/lang/Object")] : List Jvm.ClassFile.FieldType) (Option.none : Option Jvm.ClassFile.FieldType)) ([(Jvm.ClassFile.FieldType.object "com/example/tideline/tideline/session/FetcherSession")] : List Jvm.ClassFile.FieldType) (5 : Nat) "com/example/tideline/tideline/session/FetcherSession" "lambda$accepted$0" (Jvm.ClassFile.MethodDescriptor.mk ([(Jvm.ClassFile.FieldType.object "java/lang/String"), Jvm.ClassFile.FieldType.int, (Jvm.ClassFile.FieldType.object "java/lang/Boolean")] : List Jvm.ClassFile.FieldType) (Option.none : Option Jvm.ClassFile.FieldType)) false (Jvm.ClassFile.MethodDescriptor.mk ([(Jvm.ClassFile.FieldType.object "java/lang/String"), Jvm.ClassFile.FieldType.int, (Jvm.ClassFile.FieldType.object "java/lang/Boolean")] : List Jvm.ClassFile.FieldType) (Option.none : Option Jvm.ClassFile.FieldType))) 23

def heap : Heap := #[]
def classes : Array Class := #[k0, k1, k2, k3, k4, k5, k6, k7, k8, k9, k10, k11, k12, k13, k14, k15, k16, k17, k18, k19, k20, k21, k22, k23]
def interned : List (Array UInt16 × Addr) := []
def slotsUsed : Nat := 0
def theMethod : MethodId := ⟨1, 1⟩
def args0 : Array Value := #[.int 5, .int 6, .int 9]
def aboutOver (below : List Frame) : State where
  vm := { classes := classes, interned := interned.toArray }
  heap := heap
  slotsUsed := slotsUsed
  threads := #[{ frames := .invoking theMethod args0 :: below }]
def below0 : List Frame := [.native { method := ⟨0, 0⟩, args := #[] }]
def about1 : State := aboutOver below0
def p0 : Program := .bare "" "" ""
def e0 : Env := launch0.env 0 0 0
theorem w_frames : about1.frames = Frame.invoking theMethod args0 :: below0 := rfl
set_option maxRecDepth 65536 in
theorem w_args : argsFit about1.vm theMethod args0 = true := by decide +kernel
set_option maxRecDepth 65536 in
theorem w_heap : heapFits about1 = true := by decide +kernel
set_option maxRecDepth 65536 in
theorem w_runnable : about1.curStatus? = some .runnable := by decide +kernel
set_option maxRecDepth 65536 in
theorem w_alone : about1.alone = true := by decide +kernel
set_option maxRecDepth 65536 in
theorem w_named : about1.methodNamed? x = some theMethod := by decide +kernel
set_option maxRecDepth 65536 in
theorem w_hears : about1.hears theMethod below0 = true := by decide +kernel
set_option maxRecDepth 65536 in
theorem w_ripe : about1.ripe theMethod args0 below0 = true := by decide +kernel
theorem w_running : about1.status = .running := rfl
set_option maxRecDepth 65536 in
theorem w_room : about1.hasRoom e0.platform room_1 = true :=
  launch0.hasRoom_least _ room_1 (by decide +kernel) (by decide +kernel) (by decide +kernel) (by decide +kernel) (by decide +kernel) (by decide +kernel)
theorem allAtoms_all (ts : List Jvm.Cond) (a : Array Jvm.Value) (st : Jvm.State) : (allAtoms ts).before a st = ts.all (fun c => c.before a st) := by
  induction ts with
  | nil => rfl
  | cons c t ih =>
    show (Jvm.Cond.and c (allAtoms t)).before a st = _
    rw [Jvm.Cond.before_and, ih, List.all_cons]
def words1 : List Jvm.Cond := Jvm.Cond.code x code maxLocals ret :: tables_1
/-- a 'code' word, met by the world's own term for the bytes: nothing is compared byte by byte -/
theorem code_word {y : MethodName} {bytes : ByteArray} {mx : Nat} {rt : Option FieldType} {a : Array Value} {s : State} {m : MethodId} {meth : Method} {c : Code} (h1 : s.methodNamed? y = some m) (h2 : s.vm.method? m = some meth) (h3 : meth.code = some c) (h4 : c.code = bytes)
    (h5 : (c.maxLocals == mx && c.exceptionTable.isEmpty && decide (c.maxStack ≤ mostOperands) && decide (meth.sig.returnType = rt) && !meth.locks && decide (parseMethodDescriptor y.desc = some meth.sig)) = true) : (Jvm.Cond.code y bytes mx rt).before a s = true := by
  simp only [Bool.and_eq_true, beq_iff_eq, Bool.not_eq_true', decide_eq_true_eq] at h5
  obtain ⟨⟨⟨⟨⟨g1, g2⟩, g3⟩, g4⟩, g5⟩, g6⟩ := h5
  simp [Cond.before, Cond.holds, Cond.value, h1, h2, h3, h4, g1, g2, g3, g4, g5, g6]
def isCode : Jvm.Cond → Bool
  | .code _ _ _ _ => true
  | _ => false
theorem all_split {L : List Jvm.Cond} {P : Jvm.Cond → Bool} (h1 : L.all (fun c => isCode c || P c) = true) (h2 : ∀ c ∈ L.filter isCode, P c = true) : L.all P = true := by
  refine List.all_eq_true.mpr fun c hc => ?_
  have h := List.all_eq_true.mp h1 c hc
  rcases Bool.eq_false_or_eq_true (isCode c) with hi | hi
  · exact h2 c (List.mem_filter.mpr ⟨hc, hi⟩)
  · simpa [hi] using h
set_option maxRecDepth 65536 in
theorem w_c0 : (Jvm.Cond.code x code maxLocals ret).before args0 about1 = true := code_word (m := ⟨1, 1⟩) (meth := k1m1) (c := k1c1) (by decide +kernel) rfl rfl rfl (by decide +kernel)
set_option maxRecDepth 65536 in
theorem w_c1 : (Jvm.Cond.code ({ cls := "com/example/tideline/tideline/session/FetcherSession", name := "<init>", desc := "()V" } : Jvm.MethodName) prog_253_method_1_code (1 : Nat) (Option.none : Option Jvm.ClassFile.FieldType)).before args0 about1 = true := code_word (m := ⟨2, 0⟩) (meth := k2m0) (c := k2c0) (by decide +kernel) rfl rfl rfl (by decide +kernel)
set_option maxRecDepth 65536 in
theorem w_c2 : (Jvm.Cond.code ({ cls := "java/lang/Object", name := "<init>", desc := "()V" } : Jvm.MethodName) object_method_1_code (1 : Nat) (Option.none : Option Jvm.ClassFile.FieldType)).before args0 about1 = true := code_word (m := ⟨0, 0⟩) (meth := k0m0) (c := k0c0) (by decide +kernel) rfl rfl rfl (by decide +kernel)
set_option maxRecDepth 65536 in
theorem w_c3 : (Jvm.Cond.code ({ cls := "com/example/tideline/tideline/session/FetchSession$Partitions", name := "<init>", desc := "()V" } : Jvm.MethodName) prog_248_method_1_code (1 : Nat) (Option.none : Option Jvm.ClassFile.FieldType)).before args0 about1 = true := code_word (m := ⟨3, 0⟩) (meth := k3m0) (c := k3c0) (by decide +kernel) rfl rfl rfl (by decide +kernel)
set_option maxRecDepth 65536 in
theorem w_c4 : (Jvm.Cond.code ({ cls := "java/util/LinkedHashMap", name := "<init>", desc := "()V" } : Jvm.MethodName) jdk_94_method_16_code (1 : Nat) (Option.none : Option Jvm.ClassFile.FieldType)).before args0 about1 = true := code_word (m := ⟨10, 0⟩) (meth := k10m0) (c := k10c0) (by decide +kernel) rfl rfl rfl (by decide +kernel)
set_option maxRecDepth 65536 in
theorem w_c5 : (Jvm.Cond.code ({ cls := "java/util/HashMap", name := "<init>", desc := "()V" } : Jvm.MethodName) jdk_69_method_7_code (1 : Nat) (Option.none : Option Jvm.ClassFile.FieldType)).before args0 about1 = true := code_word (m := ⟨8, 0⟩) (meth := k8m0) (c := k8c0) (by decide +kernel) rfl rfl rfl (by decide +kernel)
set_option maxRecDepth 65536 in
theorem w_c6 : (Jvm.Cond.code ({ cls := "java/util/AbstractMap", name := "<init>", desc := "()V" } : Jvm.MethodName) jdk_71_method_1_code (1 : Nat) (Option.none : Option Jvm.ClassFile.FieldType)).before args0 about1 = true := code_word (m := ⟨5, 0⟩) (meth := k5m0) (c := k5c0) (by decide +kernel) rfl rfl rfl (by decide +kernel)
set_option maxRecDepth 65536 in
theorem w_c7 : (Jvm.Cond.code ({ cls := "com/example/tideline/tideline/session/FetcherSession", name := "next", desc := "()Lcom/example/tideline/tideline/session/FetcherSession$Request;" } : Jvm.MethodName) prog_253_method_4_code (1 : Nat) (Option.some (Jvm.ClassFile.FieldType.object "com/example/tideline/tideline/session/FetcherSession$Request"))).before args0 about1 = true := code_word (m := ⟨2, 1⟩) (meth := k2m1) (c := k2c1) (by decide +kernel) rfl rfl rfl (by decide +kernel)
set_option maxRecDepth 65536 in
theorem w_c8 : (Jvm.Cond.code ({ cls := "com/example/tideline/tideline/session/FetcherSession$Request", name := "<init>", desc := "(IILcom/example/tideline/tideline/session/FetchSession$Partitions;Lcom/example/tideline/tideline/session/FetchSession$Partitions;)V" } : Jvm.MethodName) prog_254_method_1_code (5 : Nat) (Option.none : Option Jvm.ClassFile.FieldType)).before args0 about1 = true := code_word (m := ⟨12, 0⟩) (meth := k12m0) (c := k12c0) (by decide +kernel) rfl rfl rfl (by decide +kernel)
set_option maxRecDepth 65536 in
theorem w_c9 : (Jvm.Cond.code ({ cls := "java/lang/Record", name := "<init>", desc := "()V" } : Jvm.MethodName) jdk_30_method_1_code (1 : Nat) (Option.none : Option Jvm.ClassFile.FieldType)).before args0 about1 = true := code_word (m := ⟨11, 0⟩) (meth := k11m0) (c := k11c0) (by decide +kernel) rfl rfl rfl (by decide +kernel)
set_option maxRecDepth 65536 in
theorem w_c10 : (Jvm.Cond.code ({ cls := "com/example/tideline/tideline/session/FetcherSession", name := "startOver", desc := "(S)Z" } : Jvm.MethodName) prog_253_method_8_code (2 : Nat) (Option.some Jvm.ClassFile.FieldType.boolean)).before args0 about1 = true := code_word (m := ⟨2, 4⟩) (meth := k2m4) (c := k2c4) (by decide +kernel) rfl rfl rfl (by decide +kernel)
set_option maxRecDepth 65536 in
theorem w_c11 : (Jvm.Cond.code ({ cls := "com/example/tideline/tideline/session/FetcherSession", name := "incremental", desc := "()Z" } : Jvm.MethodName) prog_253_method_7_code (1 : Nat) (Option.some Jvm.ClassFile.FieldType.boolean)).before args0 about1 = true := code_word (m := ⟨2, 3⟩) (meth := k2m3) (c := k2c3) (by decide +kernel) rfl rfl rfl (by decide +kernel)
set_option maxRecDepth 65536 in
theorem w_c12 : (Jvm.Cond.code ({ cls := "com/example/tideline/tideline/session/FetcherSession$Request", name := "sessionId", desc := "()I" } : Jvm.MethodName) prog_254_method_5_code (1 : Nat) (Option.some Jvm.ClassFile.FieldType.int)).before args0 about1 = true := code_word (m := ⟨12, 1⟩) (meth := k12m1) (c := k12c1) (by decide +kernel) rfl rfl rfl (by decide +kernel)
set_option maxRecDepth 65536 in
theorem w_c13 : (Jvm.Cond.code ({ cls := "com/example/tideline/tideline/session/FetcherSession$Request", name := "epoch", desc := "()I" } : Jvm.MethodName) prog_254_method_6_code (1 : Nat) (Option.some Jvm.ClassFile.FieldType.int)).before args0 about1 = true := code_word (m := ⟨12, 2⟩) (meth := k12m2) (c := k12c2) (by decide +kernel) rfl rfl rfl (by decide +kernel)
set_option maxRecDepth 65536 in
theorem w_c14 : (Jvm.Cond.code ({ cls := "com/example/tideline/tideline/session/FetcherSession", name := "accepted", desc := "(I)V" } : Jvm.MethodName) prog_253_method_5_code (2 : Nat) (Option.none : Option Jvm.ClassFile.FieldType)).before args0 about1 = true := code_word (m := ⟨2, 2⟩) (meth := k2m2) (c := k2c2) (by decide +kernel) rfl rfl rfl (by decide +kernel)
set_option maxRecDepth 65536 in
theorem w_c15 : (Jvm.Cond.code ({ cls := "com/example/tideline/tideline/session/FetcherSession$Request", name := "listed", desc := "()Lcom/example/tideline/tideline/session/FetchSession$Partitions;" } : Jvm.MethodName) prog_254_method_7_code (1 : Nat) (Option.some (Jvm.ClassFile.FieldType.object "com/example/tideline/tideline/session/FetchSession$Partitions"))).before args0 about1 = true := code_word (m := ⟨12, 3⟩) (meth := k12m3) (c := k12c3) (by decide +kernel) rfl rfl rfl (by decide +kernel)
set_option maxRecDepth 65536 in
theorem w_c16 : (Jvm.Cond.code ({ cls := "com/example/tideline/tideline/session/FetchSession", name := "epochAfter", desc := "(I)I" } : Jvm.MethodName) prog_244_method_17_code (1 : Nat) (Option.some Jvm.ClassFile.FieldType.int)).before args0 about1 = true := code_word (m := ⟨13, 0⟩) (meth := k13m0) (c := k13c0) (by decide +kernel) rfl rfl rfl (by decide +kernel)
set_option maxRecDepth 65536 in
theorem w_c17 : (Jvm.Cond.code ({ cls := "java/util/Objects", name := "requireNonNull", desc := "(Ljava/lang/Object;)Ljava/lang/Object;" } : Jvm.MethodName) jdk_31_method_10_code (1 : Nat) (Option.some (Jvm.ClassFile.FieldType.object "java/lang/Object"))).before args0 about1 = true := code_word (m := ⟨14, 1⟩) (meth := k14m1) (c := k14c1) (by decide +kernel) rfl rfl rfl (by decide +kernel)
set_option maxRecDepth 65536 in
theorem w_c18 : (Jvm.Cond.code ({ cls := "com/example/tideline/tideline/session/FetchSession$Partitions", name := "forEach", desc := "(Lcom/example/tideline/tideline/session/FetchSession$Partitions$Each;)V" } : Jvm.MethodName) prog_248_method_9_code (2 : Nat) (Option.none : Option Jvm.ClassFile.FieldType)).before args0 about1 = true := code_word (m := ⟨3, 2⟩) (meth := k3m2) (c := k3c2) (by decide +kernel) rfl rfl rfl (by decide +kernel)
set_option maxRecDepth 65536 in
theorem w_c19 : (Jvm.Cond.code ({ cls := "java/util/LinkedHashMap", name := "forEach", desc := "(Ljava/util/function/BiConsumer;)V" } : Jvm.MethodName) jdk_94_method_34_code (4 : Nat) (Option.none : Option Jvm.ClassFile.FieldType)).before args0 about1 = true := code_word (m := ⟨10, 1⟩) (meth := k10m1) (c := k10c1) (by decide +kernel) rfl rfl rfl (by decide +kernel)
set_option maxRecDepth 65536 in
theorem w_c20 : (Jvm.Cond.code ({ cls := "com/example/tideline/tideline/session/FetcherSession$Request", name := "forgotten", desc := "()Lcom/example/tideline/tideline/session/FetchSession$Partitions;" } : Jvm.MethodName) prog_254_method_8_code (1 : Nat) (Option.some (Jvm.ClassFile.FieldType.object "com/example/tideline/tideline/session/FetchSession$Partitions"))).before args0 about1 = true := code_word (m := ⟨12, 4⟩) (meth := k12m4) (c := k12c4) (by decide +kernel) rfl rfl rfl (by decide +kernel)
def codes1 : List Jvm.Cond := [Jvm.Cond.code x code maxLocals ret, Jvm.Cond.code ({ cls := "com/example/tideline/tideline/session/FetcherSession", name := "<init>", desc := "()V" } : Jvm.MethodName) prog_253_method_1_code (1 : Nat) (Option.none : Option Jvm.ClassFile.FieldType), Jvm.Cond.code ({ cls := "java/lang/Object", name := "<init>", desc := "()V" } : Jvm.MethodName) object_method_1_code (1 : Nat) (Option.none : Option Jvm.ClassFile.FieldType), Jvm.Cond.code ({ cls := "com/example/tideline/tideline/session/FetchSession$Partitions", name := "<init>", desc := "()V" } : Jvm.MethodName) prog_248_method_1_code (1 : Nat) (Option.none : Option Jvm.ClassFile.FieldType), Jvm.Cond.code ({ cls := "java/util/LinkedHashMap", name := "<init>", desc := "()V" } : Jvm.MethodName) jdk_94_method_16_code (1 : Nat) (Option.none : Option Jvm.ClassFile.FieldType), Jvm.Cond.code ({ cls := "java/util/HashMap", name := "<init>", desc := "()V" } : Jvm.MethodName) jdk_69_method_7_code (1 : Nat) (Option.none : Option Jvm.ClassFile.FieldType), Jvm.Cond.code ({ cls := "java/util/AbstractMap", name := "<init>", desc := "()V" } : Jvm.MethodName) jdk_71_method_1_code (1 : Nat) (Option.none : Option Jvm.ClassFile.FieldType), Jvm.Cond.code ({ cls := "com/example/tideline/tideline/session/FetcherSession", name := "next", desc := "()Lcom/example/tideline/tideline/session/FetcherSession$Request;" } : Jvm.MethodName) prog_253_method_4_code (1 : Nat) (Option.some (Jvm.ClassFile.FieldType.object "com/example/tideline/tideline/session/FetcherSession$Request")), Jvm.Cond.code ({ cls := "com/example/tideline/tideline/session/FetcherSession$Request", name := "<init>", desc := "(IILcom/example/tideline/tideline/session/FetchSession$Partitions;Lcom/example/tideline/tideline/session/FetchSession$Partitions;)V" } : Jvm.MethodName) prog_254_method_1_code (5 : Nat) (Option.none : Option Jvm.ClassFile.FieldType), Jvm.Cond.code ({ cls := "java/lang/Record", name := "<init>", desc := "()V" } : Jvm.MethodName) jdk_30_method_1_code (1 : Nat) (Option.none : Option Jvm.ClassFile.FieldType), Jvm.Cond.code ({ cls := "com/example/tideline/tideline/session/FetcherSession", name := "startOver", desc := "(S)Z" } : Jvm.MethodName) prog_253_method_8_code (2 : Nat) (Option.some Jvm.ClassFile.FieldType.boolean), Jvm.Cond.code ({ cls := "com/example/tideline/tideline/session/FetcherSession", name := "incremental", desc := "()Z" } : Jvm.MethodName) prog_253_method_7_code (1 : Nat) (Option.some Jvm.ClassFile.FieldType.boolean), Jvm.Cond.code ({ cls := "com/example/tideline/tideline/session/FetcherSession$Request", name := "sessionId", desc := "()I" } : Jvm.MethodName) prog_254_method_5_code (1 : Nat) (Option.some Jvm.ClassFile.FieldType.int), Jvm.Cond.code ({ cls := "com/example/tideline/tideline/session/FetcherSession$Request", name := "epoch", desc := "()I" } : Jvm.MethodName) prog_254_method_6_code (1 : Nat) (Option.some Jvm.ClassFile.FieldType.int), Jvm.Cond.code ({ cls := "com/example/tideline/tideline/session/FetcherSession", name := "accepted", desc := "(I)V" } : Jvm.MethodName) prog_253_method_5_code (2 : Nat) (Option.none : Option Jvm.ClassFile.FieldType), Jvm.Cond.code ({ cls := "com/example/tideline/tideline/session/FetcherSession$Request", name := "listed", desc := "()Lcom/example/tideline/tideline/session/FetchSession$Partitions;" } : Jvm.MethodName) prog_254_method_7_code (1 : Nat) (Option.some (Jvm.ClassFile.FieldType.object "com/example/tideline/tideline/session/FetchSession$Partitions")), Jvm.Cond.code ({ cls := "com/example/tideline/tideline/session/FetchSession", name := "epochAfter", desc := "(I)I" } : Jvm.MethodName) prog_244_method_17_code (1 : Nat) (Option.some Jvm.ClassFile.FieldType.int), Jvm.Cond.code ({ cls := "java/util/Objects", name := "requireNonNull", desc := "(Ljava/lang/Object;)Ljava/lang/Object;" } : Jvm.MethodName) jdk_31_method_10_code (1 : Nat) (Option.some (Jvm.ClassFile.FieldType.object "java/lang/Object")), Jvm.Cond.code ({ cls := "com/example/tideline/tideline/session/FetchSession$Partitions", name := "forEach", desc := "(Lcom/example/tideline/tideline/session/FetchSession$Partitions$Each;)V" } : Jvm.MethodName) prog_248_method_9_code (2 : Nat) (Option.none : Option Jvm.ClassFile.FieldType), Jvm.Cond.code ({ cls := "java/util/LinkedHashMap", name := "forEach", desc := "(Ljava/util/function/BiConsumer;)V" } : Jvm.MethodName) jdk_94_method_34_code (4 : Nat) (Option.none : Option Jvm.ClassFile.FieldType), Jvm.Cond.code ({ cls := "com/example/tideline/tideline/session/FetcherSession$Request", name := "forgotten", desc := "()Lcom/example/tideline/tideline/session/FetchSession$Partitions;" } : Jvm.MethodName) prog_254_method_8_code (1 : Nat) (Option.some (Jvm.ClassFile.FieldType.object "com/example/tideline/tideline/session/FetchSession$Partitions"))]
set_option maxRecDepth 65536 in
theorem codes_eq : words1.filter isCode = codes1 := rfl
theorem w_codes : ∀ c ∈ words1.filter isCode, c.before args0 about1 = true := by
  rw [codes_eq]
  intro c hc
  simp only [codes1, List.mem_cons, List.not_mem_nil, or_false] at hc
  rcases hc with rfl | rfl | rfl | rfl | rfl | rfl | rfl | rfl | rfl | rfl | rfl | rfl | rfl | rfl | rfl | rfl | rfl | rfl | rfl | rfl | rfl
  · exact w_c0
  · exact w_c1
  · exact w_c2
  · exact w_c3
  · exact w_c4
  · exact w_c5
  · exact w_c6
  · exact w_c7
  · exact w_c8
  · exact w_c9
  · exact w_c10
  · exact w_c11
  · exact w_c12
  · exact w_c13
  · exact w_c14
  · exact w_c15
  · exact w_c16
  · exact w_c17
  · exact w_c18
  · exact w_c19
  · exact w_c20
set_option maxRecDepth 65536 in
theorem w_t1 : (words1.take 24).all (fun c => isCode c || c.before args0 about1) = true := by decide +kernel
set_option maxRecDepth 65536 in
theorem w_t2 : ((words1.drop 24).take 24).all (fun c => isCode c || c.before args0 about1) = true := by decide +kernel
set_option maxRecDepth 65536 in
theorem w_t3 : (((words1.drop 24).drop 24).take 24).all (fun c => isCode c || c.before args0 about1) = true := by decide +kernel
set_option maxRecDepth 65536 in
theorem w_t4 : ((((words1.drop 24).drop 24).drop 24).take 24).all (fun c => isCode c || c.before args0 about1) = true := by decide +kernel
set_option maxRecDepth 65536 in
theorem w_t5 : (((((words1.drop 24).drop 24).drop 24).drop 24).take 24).all (fun c => isCode c || c.before args0 about1) = true := by decide +kernel
set_option maxRecDepth 65536 in
theorem w_t6 : ((((((words1.drop 24).drop 24).drop 24).drop 24).drop 24).take 24).all (fun c => isCode c || c.before args0 about1) = true := by decide +kernel
set_option maxRecDepth 65536 in
theorem w_t7 : ((((((words1.drop 24).drop 24).drop 24).drop 24).drop 24).drop 24).all (fun c => isCode c || c.before args0 about1) = true := by decide +kernel
theorem w_tables : (allAtoms (Jvm.Cond.code x code maxLocals ret :: tables_1)).before args0 about1 = true := by
  rw [allAtoms_all]
  show words1.all (fun c => c.before args0 about1) = true
  refine all_split ?_ w_codes
  rw [← List.take_append_drop 24 words1, List.all_append, w_t1, ← List.take_append_drop 24 (words1.drop 24), List.all_append, w_t2, ← List.take_append_drop 24 ((words1.drop 24).drop 24), List.all_append, w_t3, ← List.take_append_drop 24 (((words1.drop 24).drop 24).drop 24), List.all_append, w_t4, ← List.take_append_drop 24 ((((words1.drop 24).drop 24).drop 24).drop 24), List.all_append, w_t5, ← List.take_append_drop 24 (((((words1.drop 24).drop 24).drop 24).drop 24).drop 24), List.all_append, w_t6, w_t7]
  rfl
set_option maxRecDepth 65536 in
theorem w_case : (Jvm.Cond.and given_1 narrow_1).before args0 about1 = true := by decide +kernel
theorem w_applies : (headSpec (Jvm.Cond.code x code maxLocals ret :: tables_1) room_1).applies x e0.platform about1 = true :=
  (Spec.applies_iff w_frames).mpr ⟨w_running, w_runnable, w_alone, w_named, w_hears, w_ripe, w_room, w_tables⟩
theorem atStart : AtStart classFile x code maxLocals ret World_1 tables_1 room_1 Calls_1 rest_1 Pre_1 launch0 p0 e0 about1 theMethod args0 below0 :=
  ⟨lists_1, trivial, launch0.admits_env _ _ _, launch0.least_env, fairChoices_fair.cas, fairChoices_fair.clock, w_frames, w_args, w_heap, w_applies, trivial, trivial, w_case⟩
end start1
theorem witness_1 : WitnessClaimed_1 := ⟨start1.p0, start1.e0, start1.about1, start1.theMethod, start1.args0, start1.below0, start1.atStart⟩
end Jvm.Pilot.@@N@@
