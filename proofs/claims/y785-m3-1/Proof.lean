import JvmDerived
import JvmDerived.Pilot.@@N@@Statement
import JvmDerived.Pilot.@@N@@Code
set_option linter.unusedVariables false
set_option linter.unusedSimpArgs false
namespace Jvm.RoadKit
open Sem ClassFile Op Lib Jvm.Stand Jvm.Free Jvm.LawKit
section New
variable {p : Program} {l : Launch} {e : Env} {R : Room} {s : State} {m : MethodId} {args : Array Value} {below : List Frame} {meth : Method} {c : Code} {T : State} {locs : List Loc} {cells slots : Nat}
theorem retI (X : Stand p l e R s m args below meth c T locs cells slots) (hx : p.tables.exec = Jvm.exec) {pc : Nat} {Ls : Array Slot} {z : Int32} {rest : List Value} (hret : meth.sig.returnType = some .int) (hd : decode c.code pc = .ok (.ireturn, 1)) {fs : List Frame}
    (hl : ∀ (f : JFrame) (acts : List Action), f.method = m → f.locked = none → f.entered = [] → (doReturn e (T.setTop f) acts (some (.int z))).1 = T.setFrames fs) : Steps p.tables e below (T.setTop (mkF m pc Ls (.int z :: rest))) (T.setFrames fs) := by
  have hm' : T.vm.method? m = some meth := X.method'
  have hn : narrow .int (.int z) = .int z := rfl
  show Steps p.tables e below (T.setTop { method := m, pc := pc, locals := Ls, stack := _ :: rest, locked := none }) _
  jvm_step X.here [X.here.top, hx, hd, hm', hret, hn]
  first | (intro acts; rw [hl _ acts rfl rfl rfl]) | rw [hl _ _ rfl rfl rfl]
  exact Steps.refl _
end New
end Jvm.RoadKit
namespace Jvm.Pilot.@@N@@
open Jvm Jvm.ClassFile Sem Op Lib Jvm.Free Jvm.Stand Jvm.LawKit Jvm.RoadKit Bundle Jvm.Pilot.@@N@@.Jvm.D
theorem pn_0 : plainName "com/example/limtok/limtok/ExactMathMultiplyDividePinLaw" = true := by first | (simp [plainName, overriddenIn]; done) | decide +kernel
theorem pn_1 : plainName "java/lang/Long" = true := by first | (simp [plainName, overriddenIn]; done) | decide +kernel
theorem pd_0 : parseMethodDescriptor "(JJ)I" = some ⟨[.long, .long], some .int⟩ := by decide +kernel
theorem pn_2 : plainName "com/example/limtok/limtok/ExactMath" = true := by first | (simp [plainName, overriddenIn]; done) | decide +kernel
theorem pd_1 : parseMethodDescriptor "(JJ)J" = some ⟨[.long, .long], some .long⟩ := by decide +kernel
theorem pd_2 : parseMethodDescriptor "(JJJ)J" = some ⟨[.long, .long, .long], some .long⟩ := by decide +kernel
theorem pd_3 : parseMethodDescriptor "(JJJJ)J" = some ⟨[.long, .long, .long, .long], some .long⟩ := by decide +kernel
theorem pd_4 : parseMethodDescriptor "(JJ)Z" = some ⟨[.long, .long], some .boolean⟩ := by decide +kernel
theorem d1_0 : decode jdk_29_method_66_code 0 = .ok (.lload_n 0, 1) := by decide +kernel
theorem d1_1 : decode jdk_29_method_66_code 1 = .ok (.lload_n 2, 1) := by decide +kernel
theorem d1_2 : decode jdk_29_method_66_code 2 = .ok (.lcmp, 1) := by decide +kernel
theorem d1_3 : decode jdk_29_method_66_code 3 = .ok (.ifCond .lt 7, 3) := by decide +kernel
theorem d1_6 : decode jdk_29_method_66_code 6 = .ok (.lload_n 0, 1) := by decide +kernel
theorem d1_7 : decode jdk_29_method_66_code 7 = .ok (.goto 4, 3) := by decide +kernel
theorem d1_10 : decode jdk_29_method_66_code 10 = .ok (.lload_n 2, 1) := by decide +kernel
theorem d1_11 : decode jdk_29_method_66_code 11 = .ok (.lreturn, 1) := by decide +kernel
theorem d2_0 : decode prog_23_method_2_code 0 = .ok (.lload_n 0, 1) := by decide +kernel
theorem d2_1 : decode prog_23_method_2_code 1 = .ok (.lload_n 2, 1) := by decide +kernel
theorem d2_2 : decode prog_23_method_2_code 2 = .ok (.lmul, 1) := by decide +kernel
theorem d2_3 : decode prog_23_method_2_code 3 = .ok (.lstore 8, 2) := by decide +kernel
theorem d2_5 : decode prog_23_method_2_code 5 = .ok (.lload 8, 2) := by decide +kernel
theorem d2_7 : decode prog_23_method_2_code 7 = .ok (.lload 4, 2) := by decide +kernel
theorem d2_9 : decode prog_23_method_2_code 9 = .ok (.ladd, 1) := by decide +kernel
theorem d2_10 : decode prog_23_method_2_code 10 = .ok (.lstore 10, 2) := by decide +kernel
theorem d2_12 : decode prog_23_method_2_code 12 = .ok (.lload_n 0, 1) := by decide +kernel
theorem d2_13 : decode prog_23_method_2_code 13 = .ok (.lload_n 2, 1) := by decide +kernel
theorem d2_14 : decode prog_23_method_2_code 14 = .ok (.invokestatic 7, 3) := by decide +kernel
theorem d2_17 : decode prog_23_method_2_code 17 = .ok (.lconst 0, 1) := by decide +kernel
theorem d2_18 : decode prog_23_method_2_code 18 = .ok (.lcmp, 1) := by decide +kernel
theorem d2_19 : decode prog_23_method_2_code 19 = .ok (.ifCond .ne 39, 3) := by decide +kernel
theorem d2_22 : decode prog_23_method_2_code 22 = .ok (.lload 8, 2) := by decide +kernel
theorem d2_24 : decode prog_23_method_2_code 24 = .ok (.lconst 0, 1) := by decide +kernel
theorem d2_25 : decode prog_23_method_2_code 25 = .ok (.lcmp, 1) := by decide +kernel
theorem d2_26 : decode prog_23_method_2_code 26 = .ok (.ifCond .lt 32, 3) := by decide +kernel
theorem d2_29 : decode prog_23_method_2_code 29 = .ok (.lload 10, 2) := by decide +kernel
theorem d2_31 : decode prog_23_method_2_code 31 = .ok (.lconst 0, 1) := by decide +kernel
theorem d2_32 : decode prog_23_method_2_code 32 = .ok (.lcmp, 1) := by decide +kernel
theorem d2_33 : decode prog_23_method_2_code 33 = .ok (.ifCond .lt 25, 3) := by decide +kernel
theorem d2_36 : decode prog_23_method_2_code 36 = .ok (.lload 10, 2) := by decide +kernel
theorem d2_38 : decode prog_23_method_2_code 38 = .ok (.lload 6, 2) := by decide +kernel
theorem d2_40 : decode prog_23_method_2_code 40 = .ok (.lcmp, 1) := by decide +kernel
theorem d2_41 : decode prog_23_method_2_code 41 = .ok (.ifCond .ge 7, 3) := by decide +kernel
theorem d2_44 : decode prog_23_method_2_code 44 = .ok (.lconst 0, 1) := by decide +kernel
theorem d2_45 : decode prog_23_method_2_code 45 = .ok (.goto 8, 3) := by decide +kernel
theorem d2_48 : decode prog_23_method_2_code 48 = .ok (.lload 10, 2) := by decide +kernel
theorem d2_50 : decode prog_23_method_2_code 50 = .ok (.lload 6, 2) := by decide +kernel
theorem d2_52 : decode prog_23_method_2_code 52 = .ok (.ldiv, 1) := by decide +kernel
theorem d2_53 : decode prog_23_method_2_code 53 = .ok (.lstore 12, 2) := by decide +kernel
theorem d2_55 : decode prog_23_method_2_code 55 = .ok (.goto 14, 3) := by decide +kernel
theorem d2_58 : decode prog_23_method_2_code 58 = .ok (.lload_n 0, 1) := by decide +kernel
theorem d2_59 : decode prog_23_method_2_code 59 = .ok (.lload_n 2, 1) := by decide +kernel
theorem d2_60 : decode prog_23_method_2_code 60 = .ok (.lload 4, 2) := by decide +kernel
theorem d2_62 : decode prog_23_method_2_code 62 = .ok (.lload 6, 2) := by decide +kernel
theorem d2_64 : decode prog_23_method_2_code 64 = .ok (.invokestatic 13, 3) := by decide +kernel
theorem d2_67 : decode prog_23_method_2_code 67 = .ok (.lstore 12, 2) := by decide +kernel
theorem d2_69 : decode prog_23_method_2_code 69 = .ok (.lload 12, 2) := by decide +kernel
theorem d2_71 : decode prog_23_method_2_code 71 = .ok (.lreturn, 1) := by decide +kernel
theorem d3_0 : decode jdk_29_method_45_code 0 = .ok (.lload_n 0, 1) := by decide +kernel
theorem d3_1 : decode jdk_29_method_45_code 1 = .ok (.bipush 32, 2) := by decide +kernel
theorem d3_3 : decode jdk_29_method_45_code 3 = .ok (.lshr, 1) := by decide +kernel
theorem d3_4 : decode jdk_29_method_45_code 4 = .ok (.lstore 4, 2) := by decide +kernel
theorem d3_6 : decode jdk_29_method_45_code 6 = .ok (.lload_n 0, 1) := by decide +kernel
theorem d3_7 : decode jdk_29_method_45_code 7 = .ok (.ldc2_w 138, 3) := by decide +kernel
theorem d3_10 : decode jdk_29_method_45_code 10 = .ok (.land, 1) := by decide +kernel
theorem d3_11 : decode jdk_29_method_45_code 11 = .ok (.lstore 6, 2) := by decide +kernel
theorem d3_13 : decode jdk_29_method_45_code 13 = .ok (.lload_n 2, 1) := by decide +kernel
theorem d3_14 : decode jdk_29_method_45_code 14 = .ok (.bipush 32, 2) := by decide +kernel
theorem d3_16 : decode jdk_29_method_45_code 16 = .ok (.lshr, 1) := by decide +kernel
theorem d3_17 : decode jdk_29_method_45_code 17 = .ok (.lstore 8, 2) := by decide +kernel
theorem d3_19 : decode jdk_29_method_45_code 19 = .ok (.lload_n 2, 1) := by decide +kernel
theorem d3_20 : decode jdk_29_method_45_code 20 = .ok (.ldc2_w 138, 3) := by decide +kernel
theorem d3_23 : decode jdk_29_method_45_code 23 = .ok (.land, 1) := by decide +kernel
theorem d3_24 : decode jdk_29_method_45_code 24 = .ok (.lstore 10, 2) := by decide +kernel
theorem d3_26 : decode jdk_29_method_45_code 26 = .ok (.lload 6, 2) := by decide +kernel
theorem d3_28 : decode jdk_29_method_45_code 28 = .ok (.lload 10, 2) := by decide +kernel
theorem d3_30 : decode jdk_29_method_45_code 30 = .ok (.lmul, 1) := by decide +kernel
theorem d3_31 : decode jdk_29_method_45_code 31 = .ok (.lstore 12, 2) := by decide +kernel
theorem d3_33 : decode jdk_29_method_45_code 33 = .ok (.lload 4, 2) := by decide +kernel
theorem d3_35 : decode jdk_29_method_45_code 35 = .ok (.lload 10, 2) := by decide +kernel
theorem d3_37 : decode jdk_29_method_45_code 37 = .ok (.lmul, 1) := by decide +kernel
theorem d3_38 : decode jdk_29_method_45_code 38 = .ok (.lload 12, 2) := by decide +kernel
theorem d3_40 : decode jdk_29_method_45_code 40 = .ok (.bipush 32, 2) := by decide +kernel
theorem d3_42 : decode jdk_29_method_45_code 42 = .ok (.lushr, 1) := by decide +kernel
theorem d3_43 : decode jdk_29_method_45_code 43 = .ok (.ladd, 1) := by decide +kernel
theorem d3_44 : decode jdk_29_method_45_code 44 = .ok (.lstore 14, 2) := by decide +kernel
theorem d3_46 : decode jdk_29_method_45_code 46 = .ok (.lload 14, 2) := by decide +kernel
theorem d3_48 : decode jdk_29_method_45_code 48 = .ok (.ldc2_w 138, 3) := by decide +kernel
theorem d3_51 : decode jdk_29_method_45_code 51 = .ok (.land, 1) := by decide +kernel
theorem d3_52 : decode jdk_29_method_45_code 52 = .ok (.lstore 16, 2) := by decide +kernel
theorem d3_54 : decode jdk_29_method_45_code 54 = .ok (.lload 14, 2) := by decide +kernel
theorem d3_56 : decode jdk_29_method_45_code 56 = .ok (.bipush 32, 2) := by decide +kernel
theorem d3_58 : decode jdk_29_method_45_code 58 = .ok (.lshr, 1) := by decide +kernel
theorem d3_59 : decode jdk_29_method_45_code 59 = .ok (.lstore 18, 2) := by decide +kernel
theorem d3_61 : decode jdk_29_method_45_code 61 = .ok (.lload 16, 2) := by decide +kernel
theorem d3_63 : decode jdk_29_method_45_code 63 = .ok (.lload 6, 2) := by decide +kernel
theorem d3_65 : decode jdk_29_method_45_code 65 = .ok (.lload 8, 2) := by decide +kernel
theorem d3_67 : decode jdk_29_method_45_code 67 = .ok (.lmul, 1) := by decide +kernel
theorem d3_68 : decode jdk_29_method_45_code 68 = .ok (.ladd, 1) := by decide +kernel
theorem d3_69 : decode jdk_29_method_45_code 69 = .ok (.lstore 16, 2) := by decide +kernel
theorem d3_71 : decode jdk_29_method_45_code 71 = .ok (.lload 4, 2) := by decide +kernel
theorem d3_73 : decode jdk_29_method_45_code 73 = .ok (.lload 8, 2) := by decide +kernel
theorem d3_75 : decode jdk_29_method_45_code 75 = .ok (.lmul, 1) := by decide +kernel
theorem d3_76 : decode jdk_29_method_45_code 76 = .ok (.lload 18, 2) := by decide +kernel
theorem d3_78 : decode jdk_29_method_45_code 78 = .ok (.ladd, 1) := by decide +kernel
theorem d3_79 : decode jdk_29_method_45_code 79 = .ok (.lload 16, 2) := by decide +kernel
theorem d3_81 : decode jdk_29_method_45_code 81 = .ok (.bipush 32, 2) := by decide +kernel
theorem d3_83 : decode jdk_29_method_45_code 83 = .ok (.lshr, 1) := by decide +kernel
theorem d3_84 : decode jdk_29_method_45_code 84 = .ok (.ladd, 1) := by decide +kernel
theorem d3_85 : decode jdk_29_method_45_code 85 = .ok (.lreturn, 1) := by decide +kernel
theorem d4_0 : decode method_3_code 0 = .ok (.lload_n 0, 1) := by decide +kernel
theorem d4_1 : decode method_3_code 1 = .ok (.ldc2_w 11, 3) := by decide +kernel
theorem d4_4 : decode method_3_code 4 = .ok (.land, 1) := by decide +kernel
theorem d4_5 : decode method_3_code 5 = .ok (.lstore 4, 2) := by decide +kernel
theorem d4_7 : decode method_3_code 7 = .ok (.lload_n 0, 1) := by decide +kernel
theorem d4_8 : decode method_3_code 8 = .ok (.bipush 32, 2) := by decide +kernel
theorem d4_10 : decode method_3_code 10 = .ok (.lushr, 1) := by decide +kernel
theorem d4_11 : decode method_3_code 11 = .ok (.lstore 6, 2) := by decide +kernel
theorem d4_13 : decode method_3_code 13 = .ok (.lload_n 2, 1) := by decide +kernel
theorem d4_14 : decode method_3_code 14 = .ok (.ldc2_w 11, 3) := by decide +kernel
theorem d4_17 : decode method_3_code 17 = .ok (.land, 1) := by decide +kernel
theorem d4_18 : decode method_3_code 18 = .ok (.lstore 8, 2) := by decide +kernel
theorem d4_20 : decode method_3_code 20 = .ok (.lload_n 2, 1) := by decide +kernel
theorem d4_21 : decode method_3_code 21 = .ok (.bipush 32, 2) := by decide +kernel
theorem d4_23 : decode method_3_code 23 = .ok (.lushr, 1) := by decide +kernel
theorem d4_24 : decode method_3_code 24 = .ok (.lstore 10, 2) := by decide +kernel
theorem d4_26 : decode method_3_code 26 = .ok (.lload 4, 2) := by decide +kernel
theorem d4_28 : decode method_3_code 28 = .ok (.lload 8, 2) := by decide +kernel
theorem d4_30 : decode method_3_code 30 = .ok (.lmul, 1) := by decide +kernel
theorem d4_31 : decode method_3_code 31 = .ok (.lstore 12, 2) := by decide +kernel
theorem d4_33 : decode method_3_code 33 = .ok (.lload 4, 2) := by decide +kernel
theorem d4_35 : decode method_3_code 35 = .ok (.lload 10, 2) := by decide +kernel
theorem d4_37 : decode method_3_code 37 = .ok (.lmul, 1) := by decide +kernel
theorem d4_38 : decode method_3_code 38 = .ok (.lstore 14, 2) := by decide +kernel
theorem d4_40 : decode method_3_code 40 = .ok (.lload 6, 2) := by decide +kernel
theorem d4_42 : decode method_3_code 42 = .ok (.lload 8, 2) := by decide +kernel
theorem d4_44 : decode method_3_code 44 = .ok (.lmul, 1) := by decide +kernel
theorem d4_45 : decode method_3_code 45 = .ok (.lstore 16, 2) := by decide +kernel
theorem d4_47 : decode method_3_code 47 = .ok (.lload 6, 2) := by decide +kernel
theorem d4_49 : decode method_3_code 49 = .ok (.lload 10, 2) := by decide +kernel
theorem d4_51 : decode method_3_code 51 = .ok (.lmul, 1) := by decide +kernel
theorem d4_52 : decode method_3_code 52 = .ok (.lstore 18, 2) := by decide +kernel
theorem d4_54 : decode method_3_code 54 = .ok (.lload 12, 2) := by decide +kernel
theorem d4_56 : decode method_3_code 56 = .ok (.bipush 32, 2) := by decide +kernel
theorem d4_58 : decode method_3_code 58 = .ok (.lushr, 1) := by decide +kernel
theorem d4_59 : decode method_3_code 59 = .ok (.lload 14, 2) := by decide +kernel
theorem d4_61 : decode method_3_code 61 = .ok (.ldc2_w 11, 3) := by decide +kernel
theorem d4_64 : decode method_3_code 64 = .ok (.land, 1) := by decide +kernel
theorem d4_65 : decode method_3_code 65 = .ok (.ladd, 1) := by decide +kernel
theorem d4_66 : decode method_3_code 66 = .ok (.lload 16, 2) := by decide +kernel
theorem d4_68 : decode method_3_code 68 = .ok (.ldc2_w 11, 3) := by decide +kernel
theorem d4_71 : decode method_3_code 71 = .ok (.land, 1) := by decide +kernel
theorem d4_72 : decode method_3_code 72 = .ok (.ladd, 1) := by decide +kernel
theorem d4_73 : decode method_3_code 73 = .ok (.lstore 20, 2) := by decide +kernel
theorem d4_75 : decode method_3_code 75 = .ok (.lload 18, 2) := by decide +kernel
theorem d4_77 : decode method_3_code 77 = .ok (.lload 14, 2) := by decide +kernel
theorem d4_79 : decode method_3_code 79 = .ok (.bipush 32, 2) := by decide +kernel
theorem d4_81 : decode method_3_code 81 = .ok (.lushr, 1) := by decide +kernel
theorem d4_82 : decode method_3_code 82 = .ok (.ladd, 1) := by decide +kernel
theorem d4_83 : decode method_3_code 83 = .ok (.lload 16, 2) := by decide +kernel
theorem d4_85 : decode method_3_code 85 = .ok (.bipush 32, 2) := by decide +kernel
theorem d4_87 : decode method_3_code 87 = .ok (.lushr, 1) := by decide +kernel
theorem d4_88 : decode method_3_code 88 = .ok (.ladd, 1) := by decide +kernel
theorem d4_89 : decode method_3_code 89 = .ok (.lload 20, 2) := by decide +kernel
theorem d4_91 : decode method_3_code 91 = .ok (.bipush 32, 2) := by decide +kernel
theorem d4_93 : decode method_3_code 93 = .ok (.lushr, 1) := by decide +kernel
theorem d4_94 : decode method_3_code 94 = .ok (.ladd, 1) := by decide +kernel
theorem d4_95 : decode method_3_code 95 = .ok (.lreturn, 1) := by decide +kernel
theorem d5_0 : decode method_2_code 0 = .ok (.lload_n 0, 1) := by decide +kernel
theorem d5_1 : decode method_2_code 1 = .ok (.ldc2_w 9, 3) := by decide +kernel
theorem d5_4 : decode method_2_code 4 = .ok (.ladd, 1) := by decide +kernel
theorem d5_5 : decode method_2_code 5 = .ok (.lload_n 2, 1) := by decide +kernel
theorem d5_6 : decode method_2_code 6 = .ok (.ldc2_w 9, 3) := by decide +kernel
theorem d5_9 : decode method_2_code 9 = .ok (.ladd, 1) := by decide +kernel
theorem d5_10 : decode method_2_code 10 = .ok (.lcmp, 1) := by decide +kernel
theorem d5_11 : decode method_2_code 11 = .ok (.ifCond .ge 7, 3) := by decide +kernel
theorem d5_14 : decode method_2_code 14 = .ok (.iconst 1, 1) := by decide +kernel
theorem d5_15 : decode method_2_code 15 = .ok (.goto 4, 3) := by decide +kernel
theorem d5_18 : decode method_2_code 18 = .ok (.iconst 0, 1) := by decide +kernel
theorem d5_19 : decode method_2_code 19 = .ok (.ireturn, 1) := by decide +kernel
theorem d6_0 : decode prog_23_method_3_code 0 = .ok (.lload_n 0, 1) := by decide +kernel
theorem d6_1 : decode prog_23_method_3_code 1 = .ok (.lload_n 2, 1) := by decide +kernel
theorem d6_2 : decode prog_23_method_3_code 2 = .ok (.invokestatic 7, 3) := by decide +kernel
theorem d6_5 : decode prog_23_method_3_code 5 = .ok (.lstore 8, 2) := by decide +kernel
theorem d6_7 : decode prog_23_method_3_code 7 = .ok (.lload_n 0, 1) := by decide +kernel
theorem d6_8 : decode prog_23_method_3_code 8 = .ok (.lload_n 2, 1) := by decide +kernel
theorem d6_9 : decode prog_23_method_3_code 9 = .ok (.lmul, 1) := by decide +kernel
theorem d6_10 : decode prog_23_method_3_code 10 = .ok (.lload 4, 2) := by decide +kernel
theorem d6_12 : decode prog_23_method_3_code 12 = .ok (.ladd, 1) := by decide +kernel
theorem d6_13 : decode prog_23_method_3_code 13 = .ok (.lstore 10, 2) := by decide +kernel
theorem d6_15 : decode prog_23_method_3_code 15 = .ok (.lload 10, 2) := by decide +kernel
theorem d6_17 : decode prog_23_method_3_code 17 = .ok (.lload 4, 2) := by decide +kernel
theorem d6_19 : decode prog_23_method_3_code 19 = .ok (.invokestatic 19, 3) := by decide +kernel
theorem d6_22 : decode prog_23_method_3_code 22 = .ok (.ifCond .ge 9, 3) := by decide +kernel
theorem d6_25 : decode prog_23_method_3_code 25 = .ok (.lload 8, 2) := by decide +kernel
theorem d6_27 : decode prog_23_method_3_code 27 = .ok (.lconst 1, 1) := by decide +kernel
theorem d6_28 : decode prog_23_method_3_code 28 = .ok (.ladd, 1) := by decide +kernel
theorem d6_29 : decode prog_23_method_3_code 29 = .ok (.lstore 8, 2) := by decide +kernel
theorem d6_31 : decode prog_23_method_3_code 31 = .ok (.lload 8, 2) := by decide +kernel
theorem d6_33 : decode prog_23_method_3_code 33 = .ok (.iconst 1, 1) := by decide +kernel
theorem d6_34 : decode prog_23_method_3_code 34 = .ok (.lshl, 1) := by decide +kernel
theorem d6_35 : decode prog_23_method_3_code 35 = .ok (.lload 10, 2) := by decide +kernel
theorem d6_37 : decode prog_23_method_3_code 37 = .ok (.bipush 63, 2) := by decide +kernel
theorem d6_39 : decode prog_23_method_3_code 39 = .ok (.lushr, 1) := by decide +kernel
theorem d6_40 : decode prog_23_method_3_code 40 = .ok (.lor, 1) := by decide +kernel
theorem d6_41 : decode prog_23_method_3_code 41 = .ok (.lload 6, 2) := by decide +kernel
theorem d6_43 : decode prog_23_method_3_code 43 = .ok (.lcmp, 1) := by decide +kernel
theorem d6_44 : decode prog_23_method_3_code 44 = .ok (.ifCond .lt 11, 3) := by decide +kernel
theorem d6_47 : decode prog_23_method_3_code 47 = .ok (.ldc2_w 25, 3) := by decide +kernel
theorem d6_50 : decode prog_23_method_3_code 50 = .ok (.lstore 12, 2) := by decide +kernel
theorem d6_52 : decode prog_23_method_3_code 52 = .ok (.goto 14, 3) := by decide +kernel
theorem d6_55 : decode prog_23_method_3_code 55 = .ok (.lload 8, 2) := by decide +kernel
theorem d6_57 : decode prog_23_method_3_code 57 = .ok (.lload 10, 2) := by decide +kernel
theorem d6_59 : decode prog_23_method_3_code 59 = .ok (.lload 6, 2) := by decide +kernel
theorem d6_61 : decode prog_23_method_3_code 61 = .ok (.invokestatic 27, 3) := by decide +kernel
theorem d6_64 : decode prog_23_method_3_code 64 = .ok (.lstore 12, 2) := by decide +kernel
theorem d6_66 : decode prog_23_method_3_code 66 = .ok (.lload 12, 2) := by decide +kernel
theorem d6_68 : decode prog_23_method_3_code 68 = .ok (.lreturn, 1) := by decide +kernel
theorem d7_0 : decode jdk_35_method_43_code 0 = .ok (.lload_n 0, 1) := by decide +kernel
theorem d7_1 : decode jdk_35_method_43_code 1 = .ok (.ldc2_w 168, 3) := by decide +kernel
theorem d7_4 : decode jdk_35_method_43_code 4 = .ok (.ladd, 1) := by decide +kernel
theorem d7_5 : decode jdk_35_method_43_code 5 = .ok (.lload_n 2, 1) := by decide +kernel
theorem d7_6 : decode jdk_35_method_43_code 6 = .ok (.ldc2_w 168, 3) := by decide +kernel
theorem d7_9 : decode jdk_35_method_43_code 9 = .ok (.ladd, 1) := by decide +kernel
theorem d7_10 : decode jdk_35_method_43_code 10 = .ok (.invokestatic 302, 3) := by decide +kernel
theorem d7_13 : decode jdk_35_method_43_code 13 = .ok (.ireturn, 1) := by decide +kernel
theorem d8_0 : decode jdk_35_method_42_code 0 = .ok (.lload_n 0, 1) := by decide +kernel
theorem d8_1 : decode jdk_35_method_42_code 1 = .ok (.lload_n 2, 1) := by decide +kernel
theorem d8_2 : decode jdk_35_method_42_code 2 = .ok (.lcmp, 1) := by decide +kernel
theorem d8_3 : decode jdk_35_method_42_code 3 = .ok (.ifCond .ge 7, 3) := by decide +kernel
theorem d8_6 : decode jdk_35_method_42_code 6 = .ok (.iconst (-1), 1) := by decide +kernel
theorem d8_7 : decode jdk_35_method_42_code 7 = .ok (.goto 14, 3) := by decide +kernel
theorem d8_10 : decode jdk_35_method_42_code 10 = .ok (.lload_n 0, 1) := by decide +kernel
theorem d8_11 : decode jdk_35_method_42_code 11 = .ok (.lload_n 2, 1) := by decide +kernel
theorem d8_12 : decode jdk_35_method_42_code 12 = .ok (.lcmp, 1) := by decide +kernel
theorem d8_13 : decode jdk_35_method_42_code 13 = .ok (.ifCond .ne 7, 3) := by decide +kernel
theorem d8_16 : decode jdk_35_method_42_code 16 = .ok (.iconst 0, 1) := by decide +kernel
theorem d8_17 : decode jdk_35_method_42_code 17 = .ok (.goto 4, 3) := by decide +kernel
theorem d8_20 : decode jdk_35_method_42_code 20 = .ok (.iconst 1, 1) := by decide +kernel
theorem d8_21 : decode jdk_35_method_42_code 21 = .ok (.ireturn, 1) := by decide +kernel
theorem d9_0 : decode prog_23_method_4_code 0 = .ok (.lload_n 0, 1) := by decide +kernel
theorem d9_1 : decode prog_23_method_4_code 1 = .ok (.lstore 6, 2) := by decide +kernel
theorem d9_3 : decode prog_23_method_4_code 3 = .ok (.lconst 0, 1) := by decide +kernel
theorem d9_4 : decode prog_23_method_4_code 4 = .ok (.lstore 8, 2) := by decide +kernel
theorem d9_6 : decode prog_23_method_4_code 6 = .ok (.bipush 63, 2) := by decide +kernel
theorem d9_8 : decode prog_23_method_4_code 8 = .ok (.istore 10, 2) := by decide +kernel
theorem d9_10 : decode prog_23_method_4_code 10 = .ok (.iload 10, 2) := by decide +kernel
theorem d9_12 : decode prog_23_method_4_code 12 = .ok (.ifCond .lt 51, 3) := by decide +kernel
theorem d9_15 : decode prog_23_method_4_code 15 = .ok (.lload 6, 2) := by decide +kernel
theorem d9_17 : decode prog_23_method_4_code 17 = .ok (.iconst 1, 1) := by decide +kernel
theorem d9_18 : decode prog_23_method_4_code 18 = .ok (.lshl, 1) := by decide +kernel
theorem d9_19 : decode prog_23_method_4_code 19 = .ok (.lload_n 2, 1) := by decide +kernel
theorem d9_20 : decode prog_23_method_4_code 20 = .ok (.iload 10, 2) := by decide +kernel
theorem d9_22 : decode prog_23_method_4_code 22 = .ok (.lushr, 1) := by decide +kernel
theorem d9_23 : decode prog_23_method_4_code 23 = .ok (.lconst 1, 1) := by decide +kernel
theorem d9_24 : decode prog_23_method_4_code 24 = .ok (.land, 1) := by decide +kernel
theorem d9_25 : decode prog_23_method_4_code 25 = .ok (.lor, 1) := by decide +kernel
theorem d9_26 : decode prog_23_method_4_code 26 = .ok (.lstore 6, 2) := by decide +kernel
theorem d9_28 : decode prog_23_method_4_code 28 = .ok (.lload 8, 2) := by decide +kernel
theorem d9_30 : decode prog_23_method_4_code 30 = .ok (.iconst 1, 1) := by decide +kernel
theorem d9_31 : decode prog_23_method_4_code 31 = .ok (.lshl, 1) := by decide +kernel
theorem d9_32 : decode prog_23_method_4_code 32 = .ok (.lstore 8, 2) := by decide +kernel
theorem d9_34 : decode prog_23_method_4_code 34 = .ok (.lload 6, 2) := by decide +kernel
theorem d9_36 : decode prog_23_method_4_code 36 = .ok (.lload 4, 2) := by decide +kernel
theorem d9_38 : decode prog_23_method_4_code 38 = .ok (.invokestatic 19, 3) := by decide +kernel
theorem d9_41 : decode prog_23_method_4_code 41 = .ok (.ifCond .lt 16, 3) := by decide +kernel
theorem d9_44 : decode prog_23_method_4_code 44 = .ok (.lload 6, 2) := by decide +kernel
theorem d9_46 : decode prog_23_method_4_code 46 = .ok (.lload 4, 2) := by decide +kernel
theorem d9_48 : decode prog_23_method_4_code 48 = .ok (.lsub, 1) := by decide +kernel
theorem d9_49 : decode prog_23_method_4_code 49 = .ok (.lstore 6, 2) := by decide +kernel
theorem d9_51 : decode prog_23_method_4_code 51 = .ok (.lload 8, 2) := by decide +kernel
theorem d9_53 : decode prog_23_method_4_code 53 = .ok (.lconst 1, 1) := by decide +kernel
theorem d9_54 : decode prog_23_method_4_code 54 = .ok (.lor, 1) := by decide +kernel
theorem d9_55 : decode prog_23_method_4_code 55 = .ok (.lstore 8, 2) := by decide +kernel
theorem d9_57 : decode prog_23_method_4_code 57 = .ok (.iinc 10 (-1), 3) := by decide +kernel
theorem d9_60 : decode prog_23_method_4_code 60 = .ok (.goto (-50), 3) := by decide +kernel
theorem d9_63 : decode prog_23_method_4_code 63 = .ok (.lload 8, 2) := by decide +kernel
theorem d9_65 : decode prog_23_method_4_code 65 = .ok (.lreturn, 1) := by decide +kernel
/-- a long read without its sign -/
def UL (x : Int64) : Int := x.toInt % 18446744073709551616
theorem own_max1 {a b : Int64} (h : lcmpW a b < (0 : Int32)) : a.toInt ≤ b.toInt ∧ b.toInt ≤ b.toInt ∧ (b = a ∨ b = b) := by
  have q := (lw_lt a b).mp h
  rw [Int64.lt_iff_toInt_lt] at q
  exact ⟨by omega, Int.le_refl _, Or.inr rfl⟩
theorem own_max2 {a b : Int64} (h : ¬ (lcmpW a b < (0 : Int32))) : a.toInt ≤ a.toInt ∧ b.toInt ≤ a.toInt ∧ (a = a ∨ a = b) := by
  have q : ¬ a < b := fun z => h ((lw_lt a b).mpr z)
  rw [Int64.lt_iff_toInt_lt] at q
  exact ⟨Int.le_refl _, by omega, Or.inl rfl⟩
theorem own_cmpgt {a b : Int64} (h : ¬ (lcmpW a b < (0 : Int32))) (h' : ¬ (lcmpW a b = (0 : Int32))) : b < a := by
  have q1 : ¬ a < b := fun z => h ((lw_lt a b).mpr z)
  have q2 : ¬ a = b := fun z => h' ((lw_eq a b).mpr z)
  rw [Int64.lt_iff_toInt_lt] at q1 ⊢
  have q3 : ¬ a.toInt = b.toInt := fun z => q2 (Int64.toInt_inj.mp z)
  omega
theorem own_shr32 (x : Int64) : (x >>> ((32 : Int32) &&& 0x3f).toInt64).toInt = x.toInt / 4294967296 := c_lshr x 32 32 (by decide)
theorem own_ushr32 (x : Int64) : ((x.toUInt64 >>> ((32 : Int32) &&& 0x3f).toInt64.toUInt64).toInt64).toInt = x.toInt % 18446744073709551616 / 4294967296 := c_lushr x 32 32 (by decide) (by decide)
theorem own_ushr63 (x : Int64) : ((x.toUInt64 >>> ((63 : Int32) &&& 0x3f).toInt64.toUInt64).toInt64).toInt = x.toInt % 18446744073709551616 / 9223372036854775808 := c_lushr x 63 63 (by decide) (by decide)
theorem own_shl1 (x : Int64) : ((x <<< ((1 : Int32) &&& 0x3f).toInt64).toInt - x.toInt * 2) % 18446744073709551616 = 0 := c_lshl x 1 1 (by decide)
theorem own_mask32 (x : Int64) : (x &&& (4294967295 : Int64)).toInt = x.toInt % 4294967296 := c_maskL x _ 32 (by decide) (by decide)
theorem own_mask1 (x : Int64) : (x &&& (1 : Int64)).toInt = x.toInt % 2 := c_maskL x _ 1 (by decide) (by decide)
theorem own_mask63 {x z : Int64} (h : z = x &&& (9223372036854775807 : Int64)) : 0 ≤ z.toInt := by
  have q : (x &&& (9223372036854775807 : Int64)).toInt = x.toInt % 9223372036854775808 := c_maskL x _ 63 (by decide) (by decide)
  rw [h, q]; omega
theorem own_addmin (x : Int64) : (x + (-9223372036854775808 : Int64)).toInt = UL x - 9223372036854775808 := by
  have a := c_ladd x (-9223372036854775808)
  have b := rng64 x
  have c := rng64 (x + (-9223372036854775808 : Int64))
  have d : (-9223372036854775808 : Int64).toInt = -9223372036854775808 := by decide
  rw [d] at a
  unfold UL
  omega
theorem own_ult1 {a b : Int64} (h : lcmpW (a + (-9223372036854775808 : Int64)) (b + (-9223372036854775808 : Int64)) < (0 : Int32)) : UL a < UL b := by
  have q := (lw_lt _ _).mp h
  rw [Int64.lt_iff_toInt_lt, own_addmin, own_addmin] at q
  omega
theorem own_ult2 {a b : Int64} (h : ¬ (lcmpW (a + (-9223372036854775808 : Int64)) (b + (-9223372036854775808 : Int64)) < (0 : Int32))) : ¬ UL a < UL b := fun z => h ((lw_lt _ _).mpr (by
  rw [Int64.lt_iff_toInt_lt, own_addmin, own_addmin]
  omega))
theorem own_cu {a b : Int64} {r : Int32} (h : r = -1 ∧ a + (-9223372036854775808 : Int64) < b + (-9223372036854775808 : Int64) ∨ r = 0 ∧ a + (-9223372036854775808 : Int64) = b + (-9223372036854775808 : Int64) ∨ r = 1 ∧ b + (-9223372036854775808 : Int64) < a + (-9223372036854775808 : Int64)) : r = -1 ∧ UL a < UL b ∨ r = 0 ∧ UL a = UL b ∨ r = 1 ∧ UL b < UL a := by
  rw [Int64.lt_iff_toInt_lt, Int64.lt_iff_toInt_lt, ← Int64.toInt_inj, own_addmin, own_addmin] at h
  rcases h with ⟨h1, h2⟩ | ⟨h1, h2⟩ | ⟨h1, h2⟩
  · exact Or.inl ⟨h1, by omega⟩
  · exact Or.inr (Or.inl ⟨h1, by omega⟩)
  · exact Or.inr (Or.inr ⟨h1, by omega⟩)
theorem own_cul {a b : Int64} {r : Int32} (h : r = -1 ∧ UL a < UL b ∨ r = 0 ∧ UL a = UL b ∨ r = 1 ∧ UL b < UL a) : r < (0 : Int32) ↔ UL a < UL b := by
  rcases h with ⟨rfl, h2⟩ | ⟨rfl, h2⟩ | ⟨rfl, h2⟩
  · exact ⟨fun _ => h2, fun _ => by decide⟩
  · exact ⟨fun z => absurd z (by decide), fun z => absurd z (by omega)⟩
  · exact ⟨fun z => absurd z (by decide), fun z => absurd z (by omega)⟩
/-- the product of two numbers by their halves -/
theorem own_prod (x y : Int) : ∃ A B C D : Int, A = (x % 4294967296) * (y % 4294967296) ∧ B = (x / 4294967296) * (y % 4294967296) ∧ C = (x % 4294967296) * (y / 4294967296) ∧ D = (x / 4294967296) * (y / 4294967296) ∧ x * y = D * 18446744073709551616 + (B + C) * 4294967296 + A := by
  refine ⟨_, _, _, _, rfl, rfl, rfl, rfl, ?_⟩
  have hx : x = 4294967296 * (x / 4294967296) + x % 4294967296 := (Int.mul_ediv_add_emod x 4294967296).symm
  have hy : y = 4294967296 * (y / 4294967296) + y % 4294967296 := (Int.mul_ediv_add_emod y 4294967296).symm
  generalize x / 4294967296 = xh at *
  generalize x % 4294967296 = xl at *
  generalize y / 4294967296 = yh at *
  generalize y % 4294967296 = yl at *
  subst hx hy
  grind
theorem own_mulb {a b A B : Int} (ha : 0 ≤ a) (hb : 0 ≤ b) (hA : a ≤ A) (hB : b ≤ B) : 0 ≤ a * b ∧ a * b ≤ A * B := ⟨Int.mul_nonneg ha hb, Int.mul_le_mul hA hB hb (Int.le_trans ha hA)⟩
theorem own_prodb {x y A B C D : Int} (hx : 0 ≤ x) (hx2 : x < 9223372036854775808) (hy : 0 ≤ y) (hy2 : y < 9223372036854775808) (hA : A = (x % 4294967296) * (y % 4294967296)) (hB : B = (x / 4294967296) * (y % 4294967296)) (hC : C = (x % 4294967296) * (y / 4294967296)) (hD : D = (x / 4294967296) * (y / 4294967296)) :
    (0 ≤ A ∧ A ≤ 18446744065119617025) ∧ (0 ≤ B ∧ B ≤ 9223372030412324865) ∧ (0 ≤ C ∧ C ≤ 9223372030412324865) ∧ (0 ≤ D ∧ D ≤ 4611686014132420609) := by
  subst hA hB hC hD
  exact ⟨own_mulb (A := 4294967295) (B := 4294967295) (by omega) (by omega) (by omega) (by omega), own_mulb (A := 2147483647) (B := 4294967295) (by omega) (by omega) (by omega) (by omega), own_mulb (A := 4294967295) (B := 2147483647) (by omega) (by omega) (by omega) (by omega), own_mulb (A := 2147483647) (B := 2147483647) (by omega) (by omega) (by omega) (by omega)⟩
theorem own_mhigh {x y xh xl yh yl z0 t1 w1 w2 w3 r : Int64} (p1 : 0 ≤ x.toInt) (p2 : 0 ≤ y.toInt) (hxh : xh = x >>> ((32 : Int32) &&& 0x3f).toInt64) (hxl : xl = x &&& (4294967295 : Int64)) (hyh : yh = y >>> ((32 : Int32) &&& 0x3f).toInt64) (hyl : yl = y &&& (4294967295 : Int64)) (hz0 : z0 = xl * yl)
    (ht1 : t1 = xh * yl + (z0.toUInt64 >>> ((32 : Int32) &&& 0x3f).toInt64.toUInt64).toInt64) (hw1 : w1 = t1 &&& (4294967295 : Int64)) (hw2 : w2 = t1 >>> ((32 : Int32) &&& 0x3f).toInt64) (hw3 : w3 = w1 + xl * yh) (hr : r = xh * yh + w2 + w3 >>> ((32 : Int32) &&& 0x3f).toInt64) : r.toInt = x.toInt * y.toInt / 18446744073709551616 := by
  obtain ⟨A, B, C, D, hA, hB, hC, hD, hP⟩ := own_prod x.toInt y.toInt
  have b1 := rng64 x
  have b2 := rng64 y
  obtain ⟨bA, bB, bC, bD⟩ := own_prodb p1 b1.2 p2 b2.2 hA hB hC hD
  have exh : xh.toInt = x.toInt / 4294967296 := by rw [hxh]; exact own_shr32 x
  have exl : xl.toInt = x.toInt % 4294967296 := by rw [hxl]; exact own_mask32 x
  have eyh : yh.toInt = y.toInt / 4294967296 := by rw [hyh]; exact own_shr32 y
  have eyl : yl.toInt = y.toInt % 4294967296 := by rw [hyl]; exact own_mask32 y
  have e0 : (z0.toInt - A) % 18446744073709551616 = 0 := by rw [hz0, hA, ← exl, ← eyl]; exact c_lmul _ _
  have e1 : ((xh * yl).toInt - B) % 18446744073709551616 = 0 := by rw [hB, ← exh, ← eyl]; exact c_lmul _ _
  have e2 : ((xl * yh).toInt - C) % 18446744073709551616 = 0 := by rw [hC, ← exl, ← eyh]; exact c_lmul _ _
  have e3 : ((xh * yh).toInt - D) % 18446744073709551616 = 0 := by rw [hD, ← exh, ← eyh]; exact c_lmul _ _
  have f0 := own_ushr32 z0
  have f1 := c_ladd (xh * yl) ((z0.toUInt64 >>> ((32 : Int32) &&& 0x3f).toInt64.toUInt64).toInt64)
  rw [← ht1, f0] at f1
  have f2 : w1.toInt = t1.toInt % 4294967296 := by rw [hw1]; exact own_mask32 t1
  have f3 : w2.toInt = t1.toInt / 4294967296 := by rw [hw2]; exact own_shr32 t1
  have f4 := c_ladd w1 (xl * yh)
  rw [← hw3] at f4
  have f5 := own_shr32 w3
  have f6 := c_ladd (xh * yh) w2
  have f7 := c_ladd (xh * yh + w2) (w3 >>> ((32 : Int32) &&& 0x3f).toInt64)
  rw [← hr, f5] at f7
  have g1 := rng64 t1
  have g2 := rng64 w3
  have g3 := rng64 r
  have g4 := rng64 (xh * yh + w2)
  have g5 := rng64 (xh * yl)
  have g6 := rng64 (xl * yh)
  have g7 := rng64 (xh * yh)
  have g8 := rng64 z0
  rw [hP]
  clear hP hA hB hC hD hxh hxl hyh hyl hz0 ht1 hw1 hw2 hw3 hr
  generalize (xh * yl).toInt = XB at *
  generalize (xl * yh).toInt = XC at *
  generalize (xh * yh).toInt = XD at *
  generalize (xh * yh + w2).toInt = XE at *
  have k0 : z0.toInt % 18446744073709551616 = A := by omega
  have k1 : XB = B := by omega
  have k2 : XC = C := by omega
  have k3 : XD = D := by omega
  rw [k0] at f1
  have k4 : t1.toInt = B + A / 4294967296 := by omega
  have k5 : w3.toInt = t1.toInt % 4294967296 + C := by omega
  have k6 : XE = D + t1.toInt / 4294967296 := by omega
  omega
theorem own_mulhi {x y xh xl yh yl ll lh hl hi md r : Int64} (p1 : 0 ≤ x.toInt) (p2 : 0 ≤ y.toInt) (hxl : xl = x &&& (4294967295 : Int64)) (hxh : xh = (x.toUInt64 >>> ((32 : Int32) &&& 0x3f).toInt64.toUInt64).toInt64) (hyl : yl = y &&& (4294967295 : Int64)) (hyh : yh = (y.toUInt64 >>> ((32 : Int32) &&& 0x3f).toInt64.toUInt64).toInt64)
    (hll : ll = xl * yl) (hlh : lh = xl * yh) (hhl : hl = xh * yl) (hhi : hi = xh * yh) (hmd : md = (ll.toUInt64 >>> ((32 : Int32) &&& 0x3f).toInt64.toUInt64).toInt64 + (lh &&& (4294967295 : Int64)) + (hl &&& (4294967295 : Int64)))
    (hr : r = hi + (lh.toUInt64 >>> ((32 : Int32) &&& 0x3f).toInt64.toUInt64).toInt64 + (hl.toUInt64 >>> ((32 : Int32) &&& 0x3f).toInt64.toUInt64).toInt64 + (md.toUInt64 >>> ((32 : Int32) &&& 0x3f).toInt64.toUInt64).toInt64) : r.toInt = x.toInt * y.toInt / 18446744073709551616 := by
  obtain ⟨A, B, C, D, hA, hB, hC, hD, hP⟩ := own_prod x.toInt y.toInt
  have b1 := rng64 x
  have b2 := rng64 y
  obtain ⟨bA, bB, bC, bD⟩ := own_prodb p1 b1.2 p2 b2.2 hA hB hC hD
  have exh : xh.toInt = x.toInt / 4294967296 := by rw [hxh, own_ushr32]; omega
  have exl : xl.toInt = x.toInt % 4294967296 := by rw [hxl]; exact own_mask32 x
  have eyh : yh.toInt = y.toInt / 4294967296 := by rw [hyh, own_ushr32]; omega
  have eyl : yl.toInt = y.toInt % 4294967296 := by rw [hyl]; exact own_mask32 y
  have e0 : (ll.toInt - A) % 18446744073709551616 = 0 := by rw [hll, hA, ← exl, ← eyl]; exact c_lmul _ _
  have e1 : (hl.toInt - B) % 18446744073709551616 = 0 := by rw [hhl, hB, ← exh, ← eyl]; exact c_lmul _ _
  have e2 : (lh.toInt - C) % 18446744073709551616 = 0 := by rw [hlh, hC, ← exl, ← eyh]; exact c_lmul _ _
  have e3 : (hi.toInt - D) % 18446744073709551616 = 0 := by rw [hhi, hD, ← exh, ← eyh]; exact c_lmul _ _
  have g1 := rng64 ll
  have g2 := rng64 hl
  have g3 := rng64 lh
  have g4 := rng64 hi
  have k1 : hl.toInt = B := by omega
  have k2 : lh.toInt = C := by omega
  have k3 : hi.toInt = D := by omega
  have f0 := own_ushr32 ll
  have f1 := own_mask32 lh
  have f2 := own_mask32 hl
  have f3 := own_ushr32 lh
  have f4 := own_ushr32 hl
  have f5 := own_ushr32 md
  have m1 := c_ladd ((ll.toUInt64 >>> ((32 : Int32) &&& 0x3f).toInt64.toUInt64).toInt64) (lh &&& (4294967295 : Int64))
  have m2 := c_ladd ((ll.toUInt64 >>> ((32 : Int32) &&& 0x3f).toInt64.toUInt64).toInt64 + (lh &&& (4294967295 : Int64))) (hl &&& (4294967295 : Int64))
  have q1 := c_ladd hi ((lh.toUInt64 >>> ((32 : Int32) &&& 0x3f).toInt64.toUInt64).toInt64)
  have q2 := c_ladd (hi + (lh.toUInt64 >>> ((32 : Int32) &&& 0x3f).toInt64.toUInt64).toInt64) ((hl.toUInt64 >>> ((32 : Int32) &&& 0x3f).toInt64.toUInt64).toInt64)
  have q3 := c_ladd (hi + (lh.toUInt64 >>> ((32 : Int32) &&& 0x3f).toInt64.toUInt64).toInt64 + (hl.toUInt64 >>> ((32 : Int32) &&& 0x3f).toInt64.toUInt64).toInt64) ((md.toUInt64 >>> ((32 : Int32) &&& 0x3f).toInt64.toUInt64).toInt64)
  rw [← hmd] at m2
  rw [← hr] at q3
  rw [f0, f1] at m1
  rw [f2] at m2
  rw [f3] at q1
  rw [f4] at q2
  rw [f5] at q3
  have r1 := rng64 ((ll.toUInt64 >>> ((32 : Int32) &&& 0x3f).toInt64.toUInt64).toInt64 + (lh &&& (4294967295 : Int64)))
  have r2 := rng64 md
  have r3 := rng64 (hi + (lh.toUInt64 >>> ((32 : Int32) &&& 0x3f).toInt64.toUInt64).toInt64)
  have r4 := rng64 (hi + (lh.toUInt64 >>> ((32 : Int32) &&& 0x3f).toInt64.toUInt64).toInt64 + (hl.toUInt64 >>> ((32 : Int32) &&& 0x3f).toInt64.toUInt64).toInt64)
  have r5 := rng64 r
  rw [hP]
  clear f0 f1 f2 f3 f4 f5 hP hA hB hC hD hxh hxl hyh hyl hll hlh hhl hhi hmd hr
  generalize ((ll.toUInt64 >>> ((32 : Int32) &&& 0x3f).toInt64.toUInt64).toInt64 + (lh &&& (4294967295 : Int64))).toInt = M at *
  generalize (hi + (lh.toUInt64 >>> ((32 : Int32) &&& 0x3f).toInt64.toUInt64).toInt64 + (hl.toUInt64 >>> ((32 : Int32) &&& 0x3f).toInt64.toUInt64).toInt64).toInt = N2 at *
  generalize (hi + (lh.toUInt64 >>> ((32 : Int32) &&& 0x3f).toInt64.toUInt64).toInt64).toInt = N1 at *
  have k0 : ll.toInt % 18446744073709551616 = A := by omega
  rw [k0] at m1
  rw [k1] at m2 q2
  rw [k2] at m1 q1
  rw [k3] at q1
  have k4 : M = A / 4294967296 + C % 4294967296 := by omega
  have k5 : md.toInt = M + B % 4294967296 := by omega
  have k6 : N1 = D + C / 4294967296 := by omega
  have k7 : N2 = N1 + B / 4294967296 := by omega
  omega
/-! the division, bit by bit -/
/-- what divideWide keeps when k bits are left -/
def DInv (h lo d : Int64) (k : Nat) (r q : Int64) : Prop := 0 ≤ r.toInt ∧ r.toInt < d.toInt ∧ ((UL q).toNat * d.toInt.toNat + r.toInt.toNat = (h.toInt.toNat * 18446744073709551616 + (UL lo).toNat) / 2 ^ k)
theorem own_neg {i : Int32} (h : i.toInt = ((0 : Nat) : Int) - 1) : i < (0 : Int32) := by rw [Int32.lt_iff_toInt_lt, h]; decide
theorem own_nonneg {i : Int32} {k : Nat} (h : i.toInt = ((k + 1 : Nat) : Int) - 1) : ¬ (i < (0 : Int32)) := by rw [Int32.lt_iff_toInt_lt, h, Int32.toInt_zero]; omega
theorem own_dec {i : Int32} {k : Nat} (h : i.toInt = ((k + 1 : Nat) : Int) - 1) (hk : k + 1 ≤ 64) : (i + (-1 : Int32)).toInt = (k : Int) - 1 := by
  have a := c_iadd i (-1)
  have b := rng32 (i + (-1 : Int32))
  have d : (-1 : Int32).toInt = -1 := by decide
  rw [d] at a
  omega
theorem own_ulb (x : Int64) : 0 ≤ UL x ∧ UL x < 18446744073709551616 := by unfold UL; omega
theorem own_dinv {h lo d : Int64} (p1 : 0 ≤ h.toInt) (p2 : h.toInt < d.toInt) : DInv h lo d 64 h 0 := by
  refine ⟨p1, p2, ?_⟩
  have z : UL (0 : Int64) = 0 := by decide
  have b := own_ulb lo
  rw [z, show (0 : Int).toNat = 0 from rfl, Nat.zero_mul]
  have e : (2 : Nat) ^ 64 = 18446744073709551616 := by decide
  rw [e]
  omega
theorem own_bit (lo : Int64) (i : Int32) (k : Nat) (hk : k < 64) (hi : i.toInt = (k : Int)) : (((lo.toUInt64 >>> (i &&& 0x3f).toInt64.toUInt64).toInt64) &&& (1 : Int64)).toInt = (((UL lo).toNat / 2 ^ k % 2 : Nat) : Int) := by
  have hik : i.toBitVec.toNat % 64 = k := by
    have a : i.toInt = (i.toBitVec.toNat : Int) := by
      rw [← Int32.toInt_toBitVec, BitVec.toInt_eq_toNat_of_msb]
      rw [← Int32.toInt_toBitVec] at hi
      cases hm : i.toBitVec.msb
      · rfl
      · have := BitVec.toInt_neg_of_msb_true hm
        omega
    omega
  rw [own_mask1]
  have b := own_ulb lo
  rcases Nat.eq_zero_or_pos k with rfl | h0
  · obtain ⟨e1, -⟩ := sm64 i 0 hik
    have e2 : (lo.toUInt64 >>> (i &&& 0x3f).toInt64.toUInt64).toInt64 = lo := by
      have e3 : (i &&& 0x3f).toInt64.toUInt64 = 0 := by
        apply UInt64.toBitVec_inj.mp
        show (i &&& 0x3f).toInt64.toBitVec = _
        rw [e1]; rfl
      rw [e3, UInt64.shiftRight_zero]
      simp
    rw [e2, Nat.pow_zero, Nat.div_one]
    unfold UL at b ⊢
    omega
  · rw [c_lushr lo i k hik h0]
    have c : lo.toInt % 18446744073709551616 = ((UL lo).toNat : Int) := by unfold UL at b ⊢; omega
    rw [c]
    norm_cast
theorem own_bitN (H LO k : Nat) (hk : k < 64) : (H * 18446744073709551616 + LO) / 2 ^ k % 2 = LO / 2 ^ k % 2 := by
  have e : H * 18446744073709551616 = (H * 2 ^ (63 - k) * 2) * 2 ^ k := by
    have e1 : (2 : Nat) ^ (63 - k) * 2 * 2 ^ k = 18446744073709551616 := by
      rw [← Nat.pow_succ, ← Nat.pow_add, show 63 - k + 1 + k = 64 by omega]
    rw [← e1]
    simp only [Nat.mul_assoc]
  rw [e, Nat.add_comm, Nat.add_mul_div_right _ _ (Nat.two_pow_pos k)]
  omega
theorem own_half (N k : Nat) : N / 2 ^ k = 2 * (N / 2 ^ (k + 1)) + N / 2 ^ k % 2 := by
  rw [Nat.pow_succ, ← Nat.div_div_eq_div_mul]
  omega
theorem own_nat {N d k f g q r b : Nat} (hN : N < d * 18446744073709551616) (hf : f = N / 2 ^ k) (h1 : q * d + r = g) (h2 : f = 2 * g + b) : (2 * q * d + (2 * r + b) = f) ∧ 2 * q < 18446744073709551616 ∧ (d ≤ 2 * r + b → 2 * q + 1 < 18446744073709551616 ∧ (2 * q + 1) * d + (2 * r + b - d) = f) := by
  have e : 2 * q * d = 2 * (q * d) := by rw [Nat.mul_assoc]
  have e' : (2 * q + 1) * d = 2 * (q * d) + d := by rw [Nat.add_mul, Nat.one_mul, e]
  have hfN : f ≤ N := by rw [hf]; exact Nat.div_le_self _ _
  refine ⟨by rw [e]; omega, ?_, fun h => ⟨?_, by rw [e']; omega⟩⟩
  · apply Nat.lt_of_mul_lt_mul_right (a := d)
    rw [e, Nat.mul_comm 18446744073709551616 d]
    omega
  · apply Nat.lt_of_mul_lt_mul_right (a := d)
    rw [e', Nat.mul_comm 18446744073709551616 d]
    omega
theorem own_r2 {r bt r2 : Int64} (h0 : 0 ≤ r.toInt) (h1 : bt.toInt = 0 ∨ bt.toInt = 1) (h : r2 = (r <<< ((1 : Int32) &&& 0x3f).toInt64) ||| bt) : UL r2 = 2 * r.toInt + bt.toInt := by
  have a := own_shl1 r
  have b := rng64 r
  have c := c_orL (r <<< ((1 : Int32) &&& 0x3f).toInt64) bt 1 (by decide) 2 rfl (by omega) (by omega) (by omega)
  rw [← h] at c
  unfold UL
  omega
theorem own_q2 {q qa : Int64} (h : qa = q <<< ((1 : Int32) &&& 0x3f).toInt64) (hb : 2 * UL q < 18446744073709551616) : UL qa = 2 * UL q := by
  have a := own_shl1 q
  rw [← h] at a
  unfold UL at *
  omega
theorem own_q3 {q qa q4 : Int64} (h : qa = q <<< ((1 : Int32) &&& 0x3f).toInt64) (h4 : q4 = qa ||| (1 : Int64)) (hb : 2 * UL q + 1 < 18446744073709551616) : UL q4 = 2 * UL q + 1 := by
  have a := own_shl1 q
  rw [← h] at a
  have o : (1 : Int64).toInt = 1 := by decide
  have c := c_orL qa 1 1 (by decide) 2 rfl (by omega) (by omega) (by omega)
  rw [← h4, o] at c
  unfold UL at *
  omega
theorem own_turn {h lo d r q r2 : Int64} {i : Int32} {k : Nat} (p1 : 0 ≤ h.toInt) (p2 : h.toInt < d.toInt) (hk : k + 1 ≤ 64) (hi : i.toInt = ((k + 1 : Nat) : Int) - 1) (hI : DInv h lo d (k + 1) r q)
    (hr2 : r2 = (r <<< ((1 : Int32) &&& 0x3f).toInt64) ||| (((lo.toUInt64 >>> (i &&& 0x3f).toInt64.toUInt64).toInt64) &&& (1 : Int64))) :
    ∃ b : Nat, b < 2 ∧ UL r2 = 2 * r.toInt + b ∧ (h.toInt.toNat * 18446744073709551616 + (UL lo).toNat) / 2 ^ k = 2 * ((UL q).toNat * d.toInt.toNat + r.toInt.toNat) + b ∧ h.toInt.toNat * 18446744073709551616 + (UL lo).toNat < d.toInt.toNat * 18446744073709551616 := by
  have e := own_bit lo i k (by omega) (by omega)
  have b := own_ulb lo
  obtain ⟨i1, i2, i3⟩ := hI
  refine ⟨(UL lo).toNat / 2 ^ k % 2, by omega, ?_, ?_, by omega⟩
  · rw [own_r2 i1 (by rw [e]; omega) hr2, e]
  · rw [i3, own_half, own_bitN _ _ _ (by omega)]
theorem own_turn1 {h lo d r q r2 qa : Int64} {i : Int32} {k : Nat} (p1 : 0 ≤ h.toInt) (p2 : h.toInt < d.toInt) (hk : k + 1 ≤ 64) (hi : i.toInt = ((k + 1 : Nat) : Int) - 1) (hI : DInv h lo d (k + 1) r q)
    (hr2 : r2 = (r <<< ((1 : Int32) &&& 0x3f).toInt64) ||| (((lo.toUInt64 >>> (i &&& 0x3f).toInt64.toUInt64).toInt64) &&& (1 : Int64))) (hqa : qa = q <<< ((1 : Int32) &&& 0x3f).toInt64) (hlt : UL r2 < UL d) : DInv h lo d k r2 qa := by
  obtain ⟨b, b1, b2, b3, b4⟩ := own_turn p1 p2 hk hi hI hr2
  obtain ⟨i1, i2, -⟩ := hI
  have hq := own_ulb q
  have hd := rng64 d
  obtain ⟨n1, n2, -⟩ := own_nat b4 rfl rfl b3
  have e1 : UL qa = 2 * UL q := own_q2 hqa (by omega)
  have e2 : r2.toInt = UL r2 := by
    have g := rng64 r2
    unfold UL at hlt ⊢
    omega
  have e3 : UL d = d.toInt := by unfold UL; omega
  refine ⟨by omega, by omega, ?_⟩
  rw [← n1, e1, e2, b2, show (2 * UL q).toNat = 2 * (UL q).toNat by omega, show (2 * r.toInt + (b : Int)).toNat = 2 * r.toInt.toNat + b by omega]
theorem own_turn2 {h lo d r q r2 qa r3 q4 : Int64} {i : Int32} {k : Nat} (p1 : 0 ≤ h.toInt) (p2 : h.toInt < d.toInt) (hk : k + 1 ≤ 64) (hi : i.toInt = ((k + 1 : Nat) : Int) - 1) (hI : DInv h lo d (k + 1) r q)
    (hr2 : r2 = (r <<< ((1 : Int32) &&& 0x3f).toInt64) ||| (((lo.toUInt64 >>> (i &&& 0x3f).toInt64.toUInt64).toInt64) &&& (1 : Int64))) (hqa : qa = q <<< ((1 : Int32) &&& 0x3f).toInt64) (hge : ¬ UL r2 < UL d) (hr3 : r3 = r2 - d) (hq4 : q4 = qa ||| (1 : Int64)) : DInv h lo d k r3 q4 := by
  obtain ⟨b, b1, b2, b3, b4⟩ := own_turn p1 p2 hk hi hI hr2
  obtain ⟨i1, i2, -⟩ := hI
  have hq := own_ulb q
  have hd := rng64 d
  have e3 : UL d = d.toInt := by unfold UL; omega
  obtain ⟨n1, n2, n3⟩ := own_nat b4 rfl rfl b3
  obtain ⟨n4, n5⟩ := n3 (by omega)
  have e1 : UL q4 = 2 * UL q + 1 := own_q3 hqa hq4 (by omega)
  have e2 : r3.toInt = UL r2 - d.toInt := by
    have g := rng64 r3
    have g2 := c_lsub r2 d
    rw [← hr3] at g2
    unfold UL at b2 ⊢
    omega
  refine ⟨by omega, by omega, ?_⟩
  rw [← n5, e1, e2, b2, show (2 * UL q + 1).toNat = 2 * (UL q).toNat + 1 by omega, show (2 * r.toInt + (b : Int) - d.toInt).toNat = 2 * r.toInt.toNat + b - d.toInt.toNat by omega]
theorem own_dend {h lo d r q : Int64} (p1 : 0 ≤ h.toInt) (p2 : h.toInt < d.toInt) (hI : DInv h lo d 0 r q) : UL q = (h.toInt * 18446744073709551616 + UL lo) / d.toInt := by
  obtain ⟨i1, i2, i3⟩ := hI
  have hq := own_ulb q
  have hl := own_ulb lo
  rw [Nat.pow_zero, Nat.div_one] at i3
  have e : h.toInt * 18446744073709551616 + UL lo = r.toInt + UL q * d.toInt := by
    have e1 : ((UL q).toNat : Int) = UL q := Int.toNat_of_nonneg hq.1
    have e2 : (d.toInt.toNat : Int) = d.toInt := Int.toNat_of_nonneg (by omega)
    have e3 : (((UL q).toNat * d.toInt.toNat : Nat) : Int) = UL q * d.toInt := by rw [Int.natCast_mul, e1, e2]
    omega
  rw [e, Int.add_mul_ediv_right _ _ (by omega), Int.ediv_eq_zero_of_lt i1 i2]
  omega
/-! the 128-bit value -/
/-- what multiplyDivide answers -/
def MD (a b c d r : Int64) : Prop := 0 ≤ r.toInt ∧ r.toInt * d.toInt ≤ a.toInt * b.toInt + c.toInt ∧ (r.toInt = 9223372036854775807 ∨ a.toInt * b.toInt + c.toInt < r.toInt * d.toInt + d.toInt)
def HL (a b c hi lo : Int64) : Prop := 0 ≤ hi.toInt ∧ hi.toInt * 18446744073709551616 + UL lo = a.toInt * b.toInt + c.toInt
def HB (a b hi lo : Int64) : Prop := 0 ≤ hi.toInt ∧ hi.toInt * 18446744073709551616 + UL lo = a.toInt * b.toInt
def HS (a b hi lo : Int64) : Prop := 0 ≤ hi.toInt ∧ hi.toInt * 18446744073709551616 + UL lo = a.toInt * b.toInt + b.toInt
theorem own_pb {a b : Int64} (p1 : 0 ≤ a.toInt) (p2 : 0 ≤ b.toInt) : 0 ≤ a.toInt * b.toInt ∧ a.toInt * b.toInt ≤ 85070591730234615847396907784232501249 := own_mulb (A := 9223372036854775807) (B := 9223372036854775807) p1 p2 (by have := rng64 a; omega) (by have := rng64 b; omega)
theorem own_lo {a b c lo : Int64} (p3 : 0 ≤ c.toInt) (hlo : lo = a * b + c) : (UL lo - (a.toInt * b.toInt + c.toInt)) % 18446744073709551616 = 0 := by
  have e1 := c_lmul a b
  have e2 := c_ladd (a * b) c
  rw [← hlo] at e2
  unfold UL
  omega
theorem own_hl1 {a b c hi lo : Int64} (p1 : 0 ≤ a.toInt) (p2 : 0 ≤ b.toInt) (p3 : 0 ≤ c.toInt) (hhi : hi.toInt = a.toInt * b.toInt / 18446744073709551616) (hlo : lo = a * b + c) (hn : ¬ UL lo < UL c) : HL a b c hi lo := by
  have e := own_lo p3 hlo
  have pb := own_pb p1 p2
  have c1 : UL c = c.toInt := by have := rng64 c; unfold UL; omega
  have c2 := rng64 c
  have l := own_ulb lo
  unfold HL
  generalize a.toInt * b.toInt = A at *
  omega
theorem own_hl2 {a b c hi hj lo : Int64} (p1 : 0 ≤ a.toInt) (p2 : 0 ≤ b.toInt) (p3 : 0 ≤ c.toInt) (hhi : hi.toInt = a.toInt * b.toInt / 18446744073709551616) (hlo : lo = a * b + c) (hn : UL lo < UL c) (hj1 : hj = hi + 1) : HL a b c hj lo := by
  have e := own_lo p3 hlo
  have pb := own_pb p1 p2
  have c1 : UL c = c.toInt := by have := rng64 c; unfold UL; omega
  have c2 := rng64 c
  have l := own_ulb lo
  have o : (1 : Int64).toInt = 1 := by decide
  have j := c_ladd hi 1
  rw [← hj1, o] at j
  have j2 := rng64 hj
  unfold HL
  generalize a.toInt * b.toInt = A at *
  omega
theorem own_sv {a b c hi lo sv : Int64} (p1 : 0 ≤ a.toInt) (p2 : 0 ≤ b.toInt) (p3 : 0 ≤ c.toInt) (hP : HL a b c hi lo) (hsv : sv = (hi <<< ((1 : Int32) &&& 0x3f).toInt64) ||| (lo.toUInt64 >>> ((63 : Int32) &&& 0x3f).toInt64.toUInt64).toInt64) : sv.toInt = (a.toInt * b.toInt + c.toInt) / 9223372036854775808 ∧ hi.toInt ≤ sv.toInt := by
  obtain ⟨h0, h1⟩ := hP
  have pb := own_pb p1 p2
  have c2 := rng64 c
  have l := own_ulb lo
  have s1 := own_shl1 hi
  have s2 := own_ushr63 lo
  have s2' : ((lo.toUInt64 >>> ((63 : Int32) &&& 0x3f).toInt64.toUInt64).toInt64).toInt = UL lo / 9223372036854775808 := s2
  have hb : hi.toInt < 4611686018427387904 := by generalize a.toInt * b.toInt = A at *; omega
  have s3 := c_orL (hi <<< ((1 : Int32) &&& 0x3f).toInt64) ((lo.toUInt64 >>> ((63 : Int32) &&& 0x3f).toInt64.toUInt64).toInt64) 1 (by decide) 2 rfl (by omega) (by omega) (by omega)
  rw [← hsv, s2'] at s3
  have g := rng64 sv
  generalize a.toInt * b.toInt = A at *
  omega
theorem own_mdmax {a b c d hi lo sv : Int64} (p1 : 0 ≤ a.toInt) (p2 : 0 ≤ b.toInt) (p3 : 0 ≤ c.toInt) (p4 : 1 ≤ d.toInt) (hP : HL a b c hi lo) (hsv : sv = (hi <<< ((1 : Int32) &&& 0x3f).toInt64) ||| (lo.toUInt64 >>> ((63 : Int32) &&& 0x3f).toInt64.toUInt64).toInt64) (hn : ¬ sv < d) : MD a b c d (9223372036854775807 : Int64) := by
  have q := (own_sv p1 p2 p3 hP hsv).1
  rw [Int64.lt_iff_toInt_lt] at hn
  have o : (9223372036854775807 : Int64).toInt = 9223372036854775807 := by decide
  unfold MD
  rw [o]
  generalize a.toInt * b.toInt = A at *
  omega
theorem own_dw {a b c d hi lo sv : Int64} (p1 : 0 ≤ a.toInt) (p2 : 0 ≤ b.toInt) (p3 : 0 ≤ c.toInt) (p4 : 1 ≤ d.toInt) (hP : HL a b c hi lo) (hsv : sv = (hi <<< ((1 : Int32) &&& 0x3f).toInt64) ||| (lo.toUInt64 >>> ((63 : Int32) &&& 0x3f).toInt64.toUInt64).toInt64) (hn : sv < d) : 0 ≤ hi.toInt ∧ hi.toInt < d.toInt := by
  have q := (own_sv p1 p2 p3 hP hsv).2
  rw [Int64.lt_iff_toInt_lt] at hn
  exact ⟨hP.1, by omega⟩
theorem own_quot {P d r : Int} (hd : 1 ≤ d) (h0 : 0 ≤ P) (hr : r = P / d) : 0 ≤ r ∧ r * d ≤ P ∧ P < r * d + d := by
  subst hr
  refine ⟨Int.ediv_nonneg h0 (by omega), Int.ediv_mul_le P (by omega), ?_⟩
  have q := Int.lt_ediv_add_one_mul_self P (by omega : 0 < d)
  rw [Int.add_mul, Int.one_mul] at q
  exact q
theorem own_mdw {a b c d hi lo sv q : Int64} (p1 : 0 ≤ a.toInt) (p2 : 0 ≤ b.toInt) (p3 : 0 ≤ c.toInt) (p4 : 1 ≤ d.toInt) (hP : HL a b c hi lo) (hsv : sv = (hi <<< ((1 : Int32) &&& 0x3f).toInt64) ||| (lo.toUInt64 >>> ((63 : Int32) &&& 0x3f).toInt64.toUInt64).toInt64) (hn : sv < d) (hq : UL q = (hi.toInt * 18446744073709551616 + UL lo) / d.toInt) : MD a b c d q := by
  have s := (own_sv p1 p2 p3 hP hsv).1
  have pb := own_pb p1 p2
  rw [Int64.lt_iff_toInt_lt, s] at hn
  rw [hP.2] at hq
  obtain ⟨r0, r1, r2⟩ := own_quot (P := a.toInt * b.toInt + c.toInt) p4 (by omega) hq
  have hlt : UL q < 9223372036854775808 := by
    rw [hq]
    apply Int.ediv_lt_of_lt_mul (by omega)
    generalize a.toInt * b.toInt = A at *
    omega
  have e : q.toInt = UL q := by have := rng64 q; unfold UL at hlt r0 ⊢; omega
  unfold MD
  rw [e]
  exact ⟨r0, r1, Or.inr r2⟩
theorem own_small {a b c hi pr sm : Int64} (p1 : 0 ≤ a.toInt) (p2 : 0 ≤ b.toInt) (p3 : 0 ≤ c.toInt) (hhi : hi.toInt = a.toInt * b.toInt / 18446744073709551616) (hpr : pr = a * b) (hsm : sm = pr + c) (h1 : hi = (0 : Int64)) (h2 : ¬ pr < (0 : Int64)) (h3 : ¬ sm < (0 : Int64)) : sm.toInt = a.toInt * b.toInt + c.toInt := by
  have pb := own_pb p1 p2
  have z : (0 : Int64).toInt = 0 := by decide
  rw [Int64.lt_iff_toInt_lt, z] at h2 h3
  rw [h1, z] at hhi
  have e1 := c_lmul a b
  rw [← hpr] at e1
  have e2 := c_ladd pr c
  rw [← hsm] at e2
  have g1 := rng64 pr
  have g2 := rng64 sm
  have g3 := rng64 c
  generalize a.toInt * b.toInt = A at *
  omega
theorem own_ne0 {d : Int64} (p4 : 1 ≤ d.toInt) : d ≠ 0 := fun z => by
  rw [z] at p4
  exact absurd p4 (by decide)
theorem own_mdq {a b c d sm : Int64} (p4 : 1 ≤ d.toInt) (hS : sm.toInt = a.toInt * b.toInt + c.toInt) (h0 : 0 ≤ sm.toInt) : MD a b c d (sm / d) := by
  have hd : d ≠ -1 := fun z => by rw [z] at p4; exact absurd p4 (by decide)
  have q := (c_ldiv sm d d.toInt rfl hd).1 h0
  obtain ⟨r0, r1, r2⟩ := own_quot p4 h0 q
  rw [hS] at r1 r2
  exact ⟨r0, r1, Or.inr r2⟩
theorem own_md0 {a b c d sm : Int64} (p1 : 0 ≤ a.toInt) (p2 : 0 ≤ b.toInt) (p3 : 0 ≤ c.toInt) (p4 : 1 ≤ d.toInt) (hS : sm.toInt = a.toInt * b.toInt + c.toInt) (h : sm < d) : MD a b c d (0 : Int64) := by
  have pb := own_pb p1 p2
  have z : (0 : Int64).toInt = 0 := by decide
  rw [Int64.lt_iff_toInt_lt, hS] at h
  unfold MD
  rw [z, Int.zero_mul]
  omega
theorem own_nn {x : Int64} (h : ¬ x < (0 : Int64)) : 0 ≤ x.toInt := by
  have z : (0 : Int64).toInt = 0 := by decide
  rw [Int64.lt_iff_toInt_lt, z] at h
  omega
/-! the law -/
theorem own_ge1 {x r : Int64} (h : (1 : Int64).toInt ≤ r.toInt ∧ x.toInt ≤ r.toInt ∧ (r = 1 ∨ r = x)) : 1 ≤ r.toInt := h.1
theorem own_le01 {d : Int64} (h : 1 ≤ d.toInt) : 0 ≤ d.toInt := by omega
theorem own_md_nn {a b c d r : Int64} (h : MD a b c d r) (z : r < (0 : Int64)) : False := by
  have o : (0 : Int64).toInt = 0 := by decide
  rw [Int64.lt_iff_toInt_lt, o] at z
  have := h.1
  omega
theorem own_md_ge {a b c d r : Int64} (h : MD a b c d r) : 0 ≤ r.toInt := h.1
theorem own_md_le {a b c d r : Int64} (h : MD a b c d r) : r.toInt * d.toInt ≤ a.toInt * b.toInt + c.toInt := h.2.1
theorem own_ltS {a b c d r : Int64} (h : MD a b c d r) (hM : ¬ r = (9223372036854775807 : Int64)) : a.toInt * b.toInt + c.toInt < r.toInt * d.toInt + d.toInt := by
  rcases h.2.2 with q | q
  · exact absurd (Int64.toInt_inj.mp (q.trans (by decide))) hM
  · exact q
/-- m, and one more where the sum lo went over -/
def Cy (m lo c z : Int64) : Prop := UL lo < UL c ∧ z = m + 1 ∨ ¬ UL lo < UL c ∧ z = m + 0
theorem own_carry0 {m lo c : Int64} {u : Int32} (hu : u = 1 ∧ UL lo < UL c ∨ u = 0 ∧ ¬ UL lo < UL c) (hc : u = (0 : Int32)) : Cy m lo c (m + (0 : Int64)) := by
  rcases hu with ⟨rfl, -⟩ | ⟨-, h⟩
  · exact absurd hc (by decide)
  · exact Or.inr ⟨h, rfl⟩
theorem own_carry1 {m lo c : Int64} {u : Int32} (hu : u = 1 ∧ UL lo < UL c ∨ u = 0 ∧ ¬ UL lo < UL c) (hc : ¬ (u = (0 : Int32))) : Cy m lo c (m + (1 : Int64)) := by
  rcases hu with ⟨-, h⟩ | ⟨rfl, -⟩
  · exact Or.inl ⟨h, rfl⟩
  · exact absurd rfl hc
theorem own_hlc {a b c m lo ph : Int64} (p1 : 0 ≤ a.toInt) (p2 : 0 ≤ b.toInt) (p3 : 0 ≤ c.toInt) (hm : m.toInt = a.toInt * b.toInt / 18446744073709551616) (hlo : lo = a * b + c) (h : Cy m lo c ph) : HL a b c ph lo := by
  rcases h with ⟨h1, h2⟩ | ⟨h1, h2⟩
  · exact own_hl2 p1 p2 p3 hm hlo h1 h2
  · have e : ph = m := by rw [h2]; simp
    rw [e]
    exact own_hl1 p1 p2 p3 hm hlo h1
theorem own_hb {a b hi lo : Int64} (p1 : 0 ≤ a.toInt) (p2 : 0 ≤ b.toInt) (hm : hi.toInt = a.toInt * b.toInt / 18446744073709551616) (hlo : lo = a * b) : HB a b hi lo := by
  have pb := own_pb p1 p2
  have e1 := c_lmul a b
  rw [← hlo] at e1
  unfold HB UL
  generalize a.toInt * b.toInt = A at *
  omega
theorem own_hs {a b hi lo sl sh : Int64} (p1 : 0 ≤ a.toInt) (p4 : 1 ≤ b.toInt) (hB : HB a b hi lo) (hsl : sl = lo + b) (h : Cy hi sl b sh) : HS a b sh sl := by
  obtain ⟨b0, b1⟩ := hB
  have pb := own_pb p1 (own_le01 p4)
  have e1 := c_ladd lo b
  rw [← hsl] at e1
  have c1 : UL b = b.toInt := by have := rng64 b; unfold UL; omega
  have g := rng64 b
  have l1 := own_ulb lo
  have l2 := own_ulb sl
  have o : (1 : Int64).toInt = 1 := by decide
  have zz : (0 : Int64).toInt = 0 := by decide
  have e2 := c_ladd hi 1
  have e3 := c_ladd hi 0
  have k : (UL sl - (UL lo + b.toInt)) % 18446744073709551616 = 0 := by unfold UL; omega
  have hsz := rng64 sh
  unfold HS
  generalize a.toInt * b.toInt = A at *
  rcases h with ⟨h1, h2⟩ | ⟨h1, h2⟩
  · rw [← h2, o] at e2
    omega
  · rw [← h2, zz] at e3
    omega
theorem own_c1 {a b c d r ph pl sh sl : Int64} (hP : HL a b c ph pl) (hS : HS r d sh sl) (e1 : ¬ (lcmpW ph sh < (0 : Int32))) (e2 : ¬ (lcmpW ph sh = (0 : Int32))) : ¬ a.toInt * b.toInt + c.toInt < r.toInt * d.toInt + d.toInt := by
  have q := own_cmpgt e1 e2
  rw [Int64.lt_iff_toInt_lt] at q
  have h1 := hP.2
  have h2 := hS.2
  have l1 := own_ulb pl
  have l2 := own_ulb sl
  omega
theorem own_c2 {a b c d r ph pl sh sl : Int64} {u : Int32} (hP : HL a b c ph pl) (hS : HS r d sh sl) (e2 : lcmpW ph sh = (0 : Int32)) (hlt : a.toInt * b.toInt + c.toInt < r.toInt * d.toInt + d.toInt) (hu : u = 1 ∧ UL pl < UL sl ∨ u = 0 ∧ ¬ UL pl < UL sl) : u = 1 := by
  have q := (lw_eq _ _).mp e2
  have h1 := hP.2
  have h2 := hS.2
  rw [q] at h1
  rcases hu with ⟨h, -⟩ | ⟨-, h⟩
  · exact h
  · exact absurd (show UL pl < UL sl by omega) h
theorem own_c3 {a b c d r ph pl qh ql : Int64} (hP : HL a b c ph pl) (hB : HB r d qh ql) (e1 : ¬ (lcmpW qh ph < (0 : Int32))) (e2 : ¬ (lcmpW qh ph = (0 : Int32))) : ¬ r.toInt * d.toInt ≤ a.toInt * b.toInt + c.toInt := by
  have q := own_cmpgt e1 e2
  rw [Int64.lt_iff_toInt_lt] at q
  have h1 := hP.2
  have h2 := hB.2
  have l1 := own_ulb pl
  have l2 := own_ulb ql
  omega
theorem own_c4 {a b c d r ph pl qh ql : Int64} {u : Int32} (hP : HL a b c ph pl) (hB : HB r d qh ql) (e2 : lcmpW qh ph = (0 : Int32)) (hle : r.toInt * d.toInt ≤ a.toInt * b.toInt + c.toInt) (hu : u = 1 ∧ UL pl < UL ql ∨ u = 0 ∧ ¬ UL pl < UL ql) : u = 0 := by
  have q := (lw_eq _ _).mp e2
  have h1 := hP.2
  have h2 := hB.2
  rw [q] at h2
  rcases hu with ⟨-, h⟩ | ⟨h, -⟩
  · exact absurd h (by omega)
  · exact h

theorem ef_rm1 (m : MethodId) (x0 : Int64) (x1 : Int64) : entryFrame m #[(.long x0), (.long x1)] 4 = mkF m 0 #[.val (.long x0), .second, .val (.long x1), .second] [] := by first | (simp [entryFrame, mkF, argsToLocals, Value.category]; done) | rfl
def Qrm1 (q1 q2 : Int64) (h0 : Heap) (n0 : Nat) (v : Option Value) (h : Heap) (L : List Loc) : Prop := ∃ r : Int64, v = some (.long r) ∧ (q1.toInt ≤ r.toInt ∧ q2.toInt ≤ r.toInt ∧ (r = q1 ∨ r = q2)) ∧ Fr n0 L ∧ h = h0
set_option maxRecDepth 65536 in
set_option maxHeartbeats 40000000 in
theorem rm1 (l : Launch) (Z : State) (a0 : Array Value) (hw : ∀ d ∈ tables_1, d.before a0 Z = true) (ws : List Jvm.Cond) (q1 q2 : Int64) (h0 : Heap) (n0 : Nat) (Z0 : n0 ≤ h0.size)  :
    MetFree l (⟨"java/lang/Math", "max", "(JJ)J"⟩ : MethodName) (head1 (Jvm.Cond.code (⟨"java/lang/Math", "max", "(JJ)J"⟩ : MethodName) jdk_29_method_66_code 4 (some .long) :: ws) ({ frames := 0, cells := 0, slots := 0, locals := 0 } : Room)) (fun a U => a = #[(.long q1), (.long q2)] ∧ Z.Warmed39 U.vm ∧ U.heap = h0) (fun _ _ _ _ _ => True) (fun _ U o U' => ∃ v L, o = .returned v ∧ Qrm1 q1 q2 h0 n0 v U'.heap L ∧ FrameEnd U o U' L ({ frames := 0, cells := 0, slots := 0, locals := 0 } : Room).cells ({ frames := 0, cells := 0, slots := 0, locals := 0 } : Room).slots) := by
  refine MetFree.of_bodySF (Jvm.Free.JP.mathPlain rfl (by decide +kernel)) hisR ?_
  intro p e s m args below meth c s₁ Bd hml0 hP hK
  obtain ⟨rfl, hZ, hh⟩ := hP
  have hx := Bd.exec
  have hlk : meth.locks = false := BodyLoose.notSynchronized Bd
  have hby := Bd.bytes
  have hml : c.maxLocals = 4 := hml0
  have hown : s.vm.findClass "java/lang/Math" = some m.cls := findClass_of_methodNamed Bd.named
  have hnm := (name_of_methodNamed Bd.named Bd.method).1
  have X0 : Stand p l e ({ frames := 0, cells := 0, slots := 0, locals := 0 } : Room) s m #[(.long q1), (.long q2)] below meth c s₁ [] 0 0 := Stand.of_body Bd
  have e0 : s₁.heap = h0 := by rw [← hh, Bd.state]; rfl
  have N0 := Fr.nil n0
  have K0 : ∀ t, Steps p.tables e below (s₁.setTop (mkF m 0 #[.val (.long q1), .second, .val (.long q2), .second] [])) t → Steps p.tables e below (s₁.setTop (entryFrame m #[(.long q1), (.long q2)] 4)) t := fun t k => castTop (ef_rm1 m q1 q2) k
  have K1 : ∀ t, Steps p.tables e below (s₁.setTop (mkF m 3 #[.val (.long q1), .second, .val (.long q2), .second] [(.int (lcmpW q1 q2))])) t → Steps p.tables e below (s₁.setTop (entryFrame m #[(.long q1), (.long q2)] 4)) t := by
    intro t kt
    refine K0 t ?_
    show Steps p.tables e below (s₁.setTop (mkF m 0 #[.val (.long q1), .second, .val (.long q2), .second] [])) _
    refine XS.lloadN X0.here hx rfl (hb hby d1_0) rfl ?_
    show Steps p.tables e below (s₁.setTop (mkF m 1 #[.val (.long q1), .second, .val (.long q2), .second] [(.long q1)])) _
    refine XS.lloadN X0.here hx rfl (hb hby d1_1) rfl ?_
    show Steps p.tables e below (s₁.setTop (mkF m 2 #[.val (.long q1), .second, .val (.long q2), .second] [(.long q2), (.long q1)])) _
    refine XS.lcmp X0.here hx rfl (hb hby d1_2) rfl ?_
    exact kt
  by_cases hc : (lcmpW q1 q2) < (0 : Int32)
  · have K2 : ∀ t, Steps p.tables e below (s₁.setTop (mkF m 11 #[.val (.long q1), .second, .val (.long q2), .second] [(.long q2)])) t → Steps p.tables e below (s₁.setTop (entryFrame m #[(.long q1), (.long q2)] 4)) t := by
      intro t kt
      refine K1 t ?_
      show Steps p.tables e below (s₁.setTop (mkF m 3 #[.val (.long q1), .second, .val (.long q2), .second] [(.int (lcmpW q1 q2))])) _
      refine XS.ifYes X0.here hx rfl (pc0 := 3) (pc' := 10) rfl (hb hby d1_3) rfl ((if0 _ _).trans (tlt (hc : (lcmpW q1 q2) < (0 : Int32))).1) (by decide) (by decide) ?_
      show Steps p.tables e below (s₁.setTop (mkF m 10 #[.val (.long q1), .second, .val (.long q2), .second] [])) _
      refine XS.lloadN X0.here hx rfl (hb hby d1_10) rfl ?_
      exact kt
    obtain ⟨fs, hr, hrun, hended, hW, hsame⟩ := X0.leave (v := some (.long q2)) (fun h => by rw [Bd.returns] at h; cases h) (hlocks := hlk)
    refine ⟨_, _, K2 _ ?_, hrun, hended, _, _, rfl, ?_, ⟨_, rfl⟩, hW, hsame.mono (by decide) (by decide)⟩
    · exact retOut X0 hx Bd.returns rfl (Or.inr (Or.inl ⟨rfl, rfl, _, rfl⟩)) (hb hby d1_11) hr
    · show Qrm1 q1 q2 h0 n0 _ s₁.heap _
      rw [e0]
      exact ⟨_, rfl, own_max1 hc, N0, rfl⟩
  · have K3 : ∀ t, Steps p.tables e below (s₁.setTop (mkF m 11 #[.val (.long q1), .second, .val (.long q2), .second] [(.long q1)])) t → Steps p.tables e below (s₁.setTop (entryFrame m #[(.long q1), (.long q2)] 4)) t := by
      intro t kt
      refine K1 t ?_
      show Steps p.tables e below (s₁.setTop (mkF m 3 #[.val (.long q1), .second, .val (.long q2), .second] [(.int (lcmpW q1 q2))])) _
      refine XS.ifNo X0.here hx rfl (hb hby d1_3) rfl ((if0 _ _).trans (flt (hc : ¬ ((lcmpW q1 q2) < (0 : Int32)))).1) ?_
      show Steps p.tables e below (s₁.setTop (mkF m 6 #[.val (.long q1), .second, .val (.long q2), .second] [])) _
      refine XS.lloadN X0.here hx rfl (hb hby d1_6) rfl ?_
      show Steps p.tables e below (s₁.setTop (mkF m 7 #[.val (.long q1), .second, .val (.long q2), .second] [(.long q1)])) _
      refine XS.goto X0.here hx rfl (pc0 := 7) (pc' := 11) rfl (hb hby d1_7) (by decide) (by decide) ?_
      exact kt
    obtain ⟨fs, hr, hrun, hended, hW, hsame⟩ := X0.leave (v := some (.long q1)) (fun h => by rw [Bd.returns] at h; cases h) (hlocks := hlk)
    refine ⟨_, _, K3 _ ?_, hrun, hended, _, _, rfl, ?_, ⟨_, rfl⟩, hW, hsame.mono (by decide) (by decide)⟩
    · exact retOut X0 hx Bd.returns rfl (Or.inr (Or.inl ⟨rfl, rfl, _, rfl⟩)) (hb hby d1_11) hr
    · show Qrm1 q1 q2 h0 n0 _ s₁.heap _
      rw [e0]
      exact ⟨_, rfl, own_max2 hc, N0, rfl⟩
theorem ef_rm3 (m : MethodId) (x0 : Int64) (x1 : Int64) : entryFrame m #[(.long x0), (.long x1)] 20 = mkF m 0 #[.val (.long x0), .second, .val (.long x1), .second, .unset, .unset, .unset, .unset, .unset, .unset, .unset, .unset, .unset, .unset, .unset, .unset, .unset, .unset, .unset, .unset] [] := by first | (simp [entryFrame, mkF, argsToLocals, Value.category]; done) | rfl
def Qrm3 (q1 q2 : Int64) (h0 : Heap) (n0 : Nat) (v : Option Value) (h : Heap) (L : List Loc) : Prop := ∃ r : Int64, v = some (.long r) ∧ r.toInt = q1.toInt * q2.toInt / 18446744073709551616 ∧ Fr n0 L ∧ h = h0
set_option maxRecDepth 65536 in
set_option maxHeartbeats 40000000 in
theorem rm3 (l : Launch) (Z : State) (a0 : Array Value) (hw : ∀ d ∈ tables_1, d.before a0 Z = true) (ws : List Jvm.Cond) (q1 q2 : Int64) (h0 : Heap) (n0 : Nat) (Z0 : n0 ≤ h0.size) (p1 : 0 ≤ q1.toInt) (p2 : 0 ≤ q2.toInt) :
    MetFree l (⟨"java/lang/Math", "multiplyHigh", "(JJ)J"⟩ : MethodName) (head1 (Jvm.Cond.code (⟨"java/lang/Math", "multiplyHigh", "(JJ)J"⟩ : MethodName) jdk_29_method_45_code 20 (some .long) :: ws) ({ frames := 0, cells := 0, slots := 0, locals := 0 } : Room)) (fun a U => a = #[(.long q1), (.long q2)] ∧ Z.Warmed39 U.vm ∧ U.heap = h0) (fun _ _ _ _ _ => True) (fun _ U o U' => ∃ v L, o = .returned v ∧ Qrm3 q1 q2 h0 n0 v U'.heap L ∧ FrameEnd U o U' L ({ frames := 0, cells := 0, slots := 0, locals := 0 } : Room).cells ({ frames := 0, cells := 0, slots := 0, locals := 0 } : Room).slots) := by
  refine MetFree.of_bodySF (Jvm.Free.JP.mathPlain rfl (by decide +kernel)) hisR ?_
  intro p e s m args below meth c s₁ Bd hml0 hP hK
  obtain ⟨rfl, hZ, hh⟩ := hP
  have hx := Bd.exec
  have hlk : meth.locks = false := BodyLoose.notSynchronized Bd
  have hby := Bd.bytes
  have hml : c.maxLocals = 20 := hml0
  have hown : s.vm.findClass "java/lang/Math" = some m.cls := findClass_of_methodNamed Bd.named
  have hnm := (name_of_methodNamed Bd.named Bd.method).1
  have X0 : Stand p l e ({ frames := 0, cells := 0, slots := 0, locals := 0 } : Room) s m #[(.long q1), (.long q2)] below meth c s₁ [] 0 0 := Stand.of_body Bd
  have e0 : s₁.heap = h0 := by rw [← hh, Bd.state]; rfl
  have N0 := Fr.nil n0
  have K0 : ∀ t, Steps p.tables e below (s₁.setTop (mkF m 0 #[.val (.long q1), .second, .val (.long q2), .second, .unset, .unset, .unset, .unset, .unset, .unset, .unset, .unset, .unset, .unset, .unset, .unset, .unset, .unset, .unset, .unset] [])) t → Steps p.tables e below (s₁.setTop (entryFrame m #[(.long q1), (.long q2)] 20)) t := fun t k => castTop (ef_rm3 m q1 q2) k
  have K1 : ∀ t, Steps p.tables e below (s₁.setTop (mkF m 4 #[.val (.long q1), .second, .val (.long q2), .second, .unset, .unset, .unset, .unset, .unset, .unset, .unset, .unset, .unset, .unset, .unset, .unset, .unset, .unset, .unset, .unset] [(.long (q1 >>> ((32 : Int32) &&& 0x3f).toInt64))])) t → Steps p.tables e below (s₁.setTop (entryFrame m #[(.long q1), (.long q2)] 20)) t := by
    intro t kt
    refine K0 t ?_
    show Steps p.tables e below (s₁.setTop (mkF m 0 #[.val (.long q1), .second, .val (.long q2), .second, .unset, .unset, .unset, .unset, .unset, .unset, .unset, .unset, .unset, .unset, .unset, .unset, .unset, .unset, .unset, .unset] [])) _
    refine XS.lloadN X0.here hx rfl (hb hby d3_0) rfl ?_
    show Steps p.tables e below (s₁.setTop (mkF m 1 #[.val (.long q1), .second, .val (.long q2), .second, .unset, .unset, .unset, .unset, .unset, .unset, .unset, .unset, .unset, .unset, .unset, .unset, .unset, .unset, .unset, .unset] [(.long q1)])) _
    refine XS.bipush X0.here hx rfl (hb hby d3_1) ?_
    show Steps p.tables e below (s₁.setTop (mkF m 3 #[.val (.long q1), .second, .val (.long q2), .second, .unset, .unset, .unset, .unset, .unset, .unset, .unset, .unset, .unset, .unset, .unset, .unset, .unset, .unset, .unset, .unset] [(.int (32 : Int32)), (.long q1)])) _
    refine XS.lshr X0.here hx rfl (hb hby d3_3) rfl ?_
    exact kt
  obtain ⟨xh, hxh⟩ : ∃ z : Int64, z = (q1 >>> ((32 : Int32) &&& 0x3f).toInt64) := ⟨_, rfl⟩
  have K2 : ∀ t, Steps p.tables e below (s₁.setTop (mkF m 4 #[.val (.long q1), .second, .val (.long q2), .second, .unset, .unset, .unset, .unset, .unset, .unset, .unset, .unset, .unset, .unset, .unset, .unset, .unset, .unset, .unset, .unset] [(.long xh)])) t → Steps p.tables e below (s₁.setTop (entryFrame m #[(.long q1), (.long q2)] 20)) t := by
    rw [hxh]; exact K1
  have K3 : ∀ t, Steps p.tables e below (s₁.setTop (mkF m 11 #[.val (.long q1), .second, .val (.long q2), .second, .val (.long xh), .second, .unset, .unset, .unset, .unset, .unset, .unset, .unset, .unset, .unset, .unset, .unset, .unset, .unset, .unset] [(.long (q1 &&& (4294967295 : Int64)))])) t → Steps p.tables e below (s₁.setTop (entryFrame m #[(.long q1), (.long q2)] 20)) t := by
    intro t kt
    refine K2 t ?_
    show Steps p.tables e below (s₁.setTop (mkF m 4 #[.val (.long q1), .second, .val (.long q2), .second, .unset, .unset, .unset, .unset, .unset, .unset, .unset, .unset, .unset, .unset, .unset, .unset, .unset, .unset, .unset, .unset] [(.long xh)])) _
    refine XS.lstore X0.here hx rfl (hb hby d3_4) rfl (l' := #[.val (.long q1), .second, .val (.long q2), .second, .val (.long xh), .second, .unset, .unset, .unset, .unset, .unset, .unset, .unset, .unset, .unset, .unset, .unset, .unset, .unset, .unset]) rfl ?_
    show Steps p.tables e below (s₁.setTop (mkF m 6 #[.val (.long q1), .second, .val (.long q2), .second, .val (.long xh), .second, .unset, .unset, .unset, .unset, .unset, .unset, .unset, .unset, .unset, .unset, .unset, .unset, .unset, .unset] [])) _
    refine XS.lloadN X0.here hx rfl (hb hby d3_6) rfl ?_
    show Steps p.tables e below (s₁.setTop (mkF m 7 #[.val (.long q1), .second, .val (.long q2), .second, .val (.long xh), .second, .unset, .unset, .unset, .unset, .unset, .unset, .unset, .unset, .unset, .unset, .unset, .unset, .unset, .unset] [(.long q1)])) _
    refine X0.ldc2Long hx hown (mvT hZ (hw _ (List.mem_of_getElem? (i := 12) rfl))) (g := (mkF m 7 #[.val (.long q1), .second, .val (.long q2), .second, .val (.long xh), .second, .unset, .unset, .unset, .unset, .unset, .unset, .unset, .unset, .unset, .unset, .unset, .unset, .unset, .unset] [(.long q1)])) rfl (hb hby d3_7) _ ?_
    show Steps p.tables e below (s₁.setTop (mkF m 10 #[.val (.long q1), .second, .val (.long q2), .second, .val (.long xh), .second, .unset, .unset, .unset, .unset, .unset, .unset, .unset, .unset, .unset, .unset, .unset, .unset, .unset, .unset] [(.long (4294967295 : Int64)), (.long q1)])) _
    refine XS.land X0.here hx rfl (hb hby d3_10) rfl ?_
    exact kt
  obtain ⟨xl, hxl⟩ : ∃ z : Int64, z = (q1 &&& (4294967295 : Int64)) := ⟨_, rfl⟩
  have K4 : ∀ t, Steps p.tables e below (s₁.setTop (mkF m 11 #[.val (.long q1), .second, .val (.long q2), .second, .val (.long xh), .second, .unset, .unset, .unset, .unset, .unset, .unset, .unset, .unset, .unset, .unset, .unset, .unset, .unset, .unset] [(.long xl)])) t → Steps p.tables e below (s₁.setTop (entryFrame m #[(.long q1), (.long q2)] 20)) t := by
    rw [hxl]; exact K3
  have K5 : ∀ t, Steps p.tables e below (s₁.setTop (mkF m 17 #[.val (.long q1), .second, .val (.long q2), .second, .val (.long xh), .second, .val (.long xl), .second, .unset, .unset, .unset, .unset, .unset, .unset, .unset, .unset, .unset, .unset, .unset, .unset] [(.long (q2 >>> ((32 : Int32) &&& 0x3f).toInt64))])) t → Steps p.tables e below (s₁.setTop (entryFrame m #[(.long q1), (.long q2)] 20)) t := by
    intro t kt
    refine K4 t ?_
    show Steps p.tables e below (s₁.setTop (mkF m 11 #[.val (.long q1), .second, .val (.long q2), .second, .val (.long xh), .second, .unset, .unset, .unset, .unset, .unset, .unset, .unset, .unset, .unset, .unset, .unset, .unset, .unset, .unset] [(.long xl)])) _
    refine XS.lstore X0.here hx rfl (hb hby d3_11) rfl (l' := #[.val (.long q1), .second, .val (.long q2), .second, .val (.long xh), .second, .val (.long xl), .second, .unset, .unset, .unset, .unset, .unset, .unset, .unset, .unset, .unset, .unset, .unset, .unset]) rfl ?_
    show Steps p.tables e below (s₁.setTop (mkF m 13 #[.val (.long q1), .second, .val (.long q2), .second, .val (.long xh), .second, .val (.long xl), .second, .unset, .unset, .unset, .unset, .unset, .unset, .unset, .unset, .unset, .unset, .unset, .unset] [])) _
    refine XS.lloadN X0.here hx rfl (hb hby d3_13) rfl ?_
    show Steps p.tables e below (s₁.setTop (mkF m 14 #[.val (.long q1), .second, .val (.long q2), .second, .val (.long xh), .second, .val (.long xl), .second, .unset, .unset, .unset, .unset, .unset, .unset, .unset, .unset, .unset, .unset, .unset, .unset] [(.long q2)])) _
    refine XS.bipush X0.here hx rfl (hb hby d3_14) ?_
    show Steps p.tables e below (s₁.setTop (mkF m 16 #[.val (.long q1), .second, .val (.long q2), .second, .val (.long xh), .second, .val (.long xl), .second, .unset, .unset, .unset, .unset, .unset, .unset, .unset, .unset, .unset, .unset, .unset, .unset] [(.int (32 : Int32)), (.long q2)])) _
    refine XS.lshr X0.here hx rfl (hb hby d3_16) rfl ?_
    exact kt
  obtain ⟨yh, hyh⟩ : ∃ z : Int64, z = (q2 >>> ((32 : Int32) &&& 0x3f).toInt64) := ⟨_, rfl⟩
  have K6 : ∀ t, Steps p.tables e below (s₁.setTop (mkF m 17 #[.val (.long q1), .second, .val (.long q2), .second, .val (.long xh), .second, .val (.long xl), .second, .unset, .unset, .unset, .unset, .unset, .unset, .unset, .unset, .unset, .unset, .unset, .unset] [(.long yh)])) t → Steps p.tables e below (s₁.setTop (entryFrame m #[(.long q1), (.long q2)] 20)) t := by
    rw [hyh]; exact K5
  have K7 : ∀ t, Steps p.tables e below (s₁.setTop (mkF m 24 #[.val (.long q1), .second, .val (.long q2), .second, .val (.long xh), .second, .val (.long xl), .second, .val (.long yh), .second, .unset, .unset, .unset, .unset, .unset, .unset, .unset, .unset, .unset, .unset] [(.long (q2 &&& (4294967295 : Int64)))])) t → Steps p.tables e below (s₁.setTop (entryFrame m #[(.long q1), (.long q2)] 20)) t := by
    intro t kt
    refine K6 t ?_
    show Steps p.tables e below (s₁.setTop (mkF m 17 #[.val (.long q1), .second, .val (.long q2), .second, .val (.long xh), .second, .val (.long xl), .second, .unset, .unset, .unset, .unset, .unset, .unset, .unset, .unset, .unset, .unset, .unset, .unset] [(.long yh)])) _
    refine XS.lstore X0.here hx rfl (hb hby d3_17) rfl (l' := #[.val (.long q1), .second, .val (.long q2), .second, .val (.long xh), .second, .val (.long xl), .second, .val (.long yh), .second, .unset, .unset, .unset, .unset, .unset, .unset, .unset, .unset, .unset, .unset]) rfl ?_
    show Steps p.tables e below (s₁.setTop (mkF m 19 #[.val (.long q1), .second, .val (.long q2), .second, .val (.long xh), .second, .val (.long xl), .second, .val (.long yh), .second, .unset, .unset, .unset, .unset, .unset, .unset, .unset, .unset, .unset, .unset] [])) _
    refine XS.lloadN X0.here hx rfl (hb hby d3_19) rfl ?_
    show Steps p.tables e below (s₁.setTop (mkF m 20 #[.val (.long q1), .second, .val (.long q2), .second, .val (.long xh), .second, .val (.long xl), .second, .val (.long yh), .second, .unset, .unset, .unset, .unset, .unset, .unset, .unset, .unset, .unset, .unset] [(.long q2)])) _
    refine X0.ldc2Long hx hown (mvT hZ (hw _ (List.mem_of_getElem? (i := 12) rfl))) (g := (mkF m 20 #[.val (.long q1), .second, .val (.long q2), .second, .val (.long xh), .second, .val (.long xl), .second, .val (.long yh), .second, .unset, .unset, .unset, .unset, .unset, .unset, .unset, .unset, .unset, .unset] [(.long q2)])) rfl (hb hby d3_20) _ ?_
    show Steps p.tables e below (s₁.setTop (mkF m 23 #[.val (.long q1), .second, .val (.long q2), .second, .val (.long xh), .second, .val (.long xl), .second, .val (.long yh), .second, .unset, .unset, .unset, .unset, .unset, .unset, .unset, .unset, .unset, .unset] [(.long (4294967295 : Int64)), (.long q2)])) _
    refine XS.land X0.here hx rfl (hb hby d3_23) rfl ?_
    exact kt
  obtain ⟨yl, hyl⟩ : ∃ z : Int64, z = (q2 &&& (4294967295 : Int64)) := ⟨_, rfl⟩
  have K8 : ∀ t, Steps p.tables e below (s₁.setTop (mkF m 24 #[.val (.long q1), .second, .val (.long q2), .second, .val (.long xh), .second, .val (.long xl), .second, .val (.long yh), .second, .unset, .unset, .unset, .unset, .unset, .unset, .unset, .unset, .unset, .unset] [(.long yl)])) t → Steps p.tables e below (s₁.setTop (entryFrame m #[(.long q1), (.long q2)] 20)) t := by
    rw [hyl]; exact K7
  have K9 : ∀ t, Steps p.tables e below (s₁.setTop (mkF m 31 #[.val (.long q1), .second, .val (.long q2), .second, .val (.long xh), .second, .val (.long xl), .second, .val (.long yh), .second, .val (.long yl), .second, .unset, .unset, .unset, .unset, .unset, .unset, .unset, .unset] [(.long (xl * yl))])) t → Steps p.tables e below (s₁.setTop (entryFrame m #[(.long q1), (.long q2)] 20)) t := by
    intro t kt
    refine K8 t ?_
    show Steps p.tables e below (s₁.setTop (mkF m 24 #[.val (.long q1), .second, .val (.long q2), .second, .val (.long xh), .second, .val (.long xl), .second, .val (.long yh), .second, .unset, .unset, .unset, .unset, .unset, .unset, .unset, .unset, .unset, .unset] [(.long yl)])) _
    refine XS.lstore X0.here hx rfl (hb hby d3_24) rfl (l' := #[.val (.long q1), .second, .val (.long q2), .second, .val (.long xh), .second, .val (.long xl), .second, .val (.long yh), .second, .val (.long yl), .second, .unset, .unset, .unset, .unset, .unset, .unset, .unset, .unset]) rfl ?_
    show Steps p.tables e below (s₁.setTop (mkF m 26 #[.val (.long q1), .second, .val (.long q2), .second, .val (.long xh), .second, .val (.long xl), .second, .val (.long yh), .second, .val (.long yl), .second, .unset, .unset, .unset, .unset, .unset, .unset, .unset, .unset] [])) _
    refine XS.lload X0.here hx rfl (hb hby d3_26) rfl ?_
    show Steps p.tables e below (s₁.setTop (mkF m 28 #[.val (.long q1), .second, .val (.long q2), .second, .val (.long xh), .second, .val (.long xl), .second, .val (.long yh), .second, .val (.long yl), .second, .unset, .unset, .unset, .unset, .unset, .unset, .unset, .unset] [(.long xl)])) _
    refine XS.lload X0.here hx rfl (hb hby d3_28) rfl ?_
    show Steps p.tables e below (s₁.setTop (mkF m 30 #[.val (.long q1), .second, .val (.long q2), .second, .val (.long xh), .second, .val (.long xl), .second, .val (.long yh), .second, .val (.long yl), .second, .unset, .unset, .unset, .unset, .unset, .unset, .unset, .unset] [(.long yl), (.long xl)])) _
    refine XS.lmul X0.here hx rfl (hb hby d3_30) rfl ?_
    exact kt
  obtain ⟨z0, hz0⟩ : ∃ z : Int64, z = (xl * yl) := ⟨_, rfl⟩
  have K10 : ∀ t, Steps p.tables e below (s₁.setTop (mkF m 31 #[.val (.long q1), .second, .val (.long q2), .second, .val (.long xh), .second, .val (.long xl), .second, .val (.long yh), .second, .val (.long yl), .second, .unset, .unset, .unset, .unset, .unset, .unset, .unset, .unset] [(.long z0)])) t → Steps p.tables e below (s₁.setTop (entryFrame m #[(.long q1), (.long q2)] 20)) t := by
    rw [hz0]; exact K9
  have K11 : ∀ t, Steps p.tables e below (s₁.setTop (mkF m 44 #[.val (.long q1), .second, .val (.long q2), .second, .val (.long xh), .second, .val (.long xl), .second, .val (.long yh), .second, .val (.long yl), .second, .val (.long z0), .second, .unset, .unset, .unset, .unset, .unset, .unset] [(.long ((xh * yl) + ((z0.toUInt64 >>> ((32 : Int32) &&& 0x3f).toInt64.toUInt64).toInt64)))])) t → Steps p.tables e below (s₁.setTop (entryFrame m #[(.long q1), (.long q2)] 20)) t := by
    intro t kt
    refine K10 t ?_
    show Steps p.tables e below (s₁.setTop (mkF m 31 #[.val (.long q1), .second, .val (.long q2), .second, .val (.long xh), .second, .val (.long xl), .second, .val (.long yh), .second, .val (.long yl), .second, .unset, .unset, .unset, .unset, .unset, .unset, .unset, .unset] [(.long z0)])) _
    refine XS.lstore X0.here hx rfl (hb hby d3_31) rfl (l' := #[.val (.long q1), .second, .val (.long q2), .second, .val (.long xh), .second, .val (.long xl), .second, .val (.long yh), .second, .val (.long yl), .second, .val (.long z0), .second, .unset, .unset, .unset, .unset, .unset, .unset]) rfl ?_
    show Steps p.tables e below (s₁.setTop (mkF m 33 #[.val (.long q1), .second, .val (.long q2), .second, .val (.long xh), .second, .val (.long xl), .second, .val (.long yh), .second, .val (.long yl), .second, .val (.long z0), .second, .unset, .unset, .unset, .unset, .unset, .unset] [])) _
    refine XS.lload X0.here hx rfl (hb hby d3_33) rfl ?_
    show Steps p.tables e below (s₁.setTop (mkF m 35 #[.val (.long q1), .second, .val (.long q2), .second, .val (.long xh), .second, .val (.long xl), .second, .val (.long yh), .second, .val (.long yl), .second, .val (.long z0), .second, .unset, .unset, .unset, .unset, .unset, .unset] [(.long xh)])) _
    refine XS.lload X0.here hx rfl (hb hby d3_35) rfl ?_
    show Steps p.tables e below (s₁.setTop (mkF m 37 #[.val (.long q1), .second, .val (.long q2), .second, .val (.long xh), .second, .val (.long xl), .second, .val (.long yh), .second, .val (.long yl), .second, .val (.long z0), .second, .unset, .unset, .unset, .unset, .unset, .unset] [(.long yl), (.long xh)])) _
    refine XS.lmul X0.here hx rfl (hb hby d3_37) rfl ?_
    show Steps p.tables e below (s₁.setTop (mkF m 38 #[.val (.long q1), .second, .val (.long q2), .second, .val (.long xh), .second, .val (.long xl), .second, .val (.long yh), .second, .val (.long yl), .second, .val (.long z0), .second, .unset, .unset, .unset, .unset, .unset, .unset] [(.long (xh * yl))])) _
    refine XS.lload X0.here hx rfl (hb hby d3_38) rfl ?_
    show Steps p.tables e below (s₁.setTop (mkF m 40 #[.val (.long q1), .second, .val (.long q2), .second, .val (.long xh), .second, .val (.long xl), .second, .val (.long yh), .second, .val (.long yl), .second, .val (.long z0), .second, .unset, .unset, .unset, .unset, .unset, .unset] [(.long z0), (.long (xh * yl))])) _
    refine XS.bipush X0.here hx rfl (hb hby d3_40) ?_
    show Steps p.tables e below (s₁.setTop (mkF m 42 #[.val (.long q1), .second, .val (.long q2), .second, .val (.long xh), .second, .val (.long xl), .second, .val (.long yh), .second, .val (.long yl), .second, .val (.long z0), .second, .unset, .unset, .unset, .unset, .unset, .unset] [(.int (32 : Int32)), (.long z0), (.long (xh * yl))])) _
    refine XS.lushr X0.here hx rfl (hb hby d3_42) rfl ?_
    show Steps p.tables e below (s₁.setTop (mkF m 43 #[.val (.long q1), .second, .val (.long q2), .second, .val (.long xh), .second, .val (.long xl), .second, .val (.long yh), .second, .val (.long yl), .second, .val (.long z0), .second, .unset, .unset, .unset, .unset, .unset, .unset] [(.long ((z0.toUInt64 >>> ((32 : Int32) &&& 0x3f).toInt64.toUInt64).toInt64)), (.long (xh * yl))])) _
    refine XS.ladd X0.here hx rfl (hb hby d3_43) rfl ?_
    exact kt
  obtain ⟨t1, ht1⟩ : ∃ z : Int64, z = ((xh * yl) + ((z0.toUInt64 >>> ((32 : Int32) &&& 0x3f).toInt64.toUInt64).toInt64)) := ⟨_, rfl⟩
  have K12 : ∀ t, Steps p.tables e below (s₁.setTop (mkF m 44 #[.val (.long q1), .second, .val (.long q2), .second, .val (.long xh), .second, .val (.long xl), .second, .val (.long yh), .second, .val (.long yl), .second, .val (.long z0), .second, .unset, .unset, .unset, .unset, .unset, .unset] [(.long t1)])) t → Steps p.tables e below (s₁.setTop (entryFrame m #[(.long q1), (.long q2)] 20)) t := by
    rw [ht1]; exact K11
  have K13 : ∀ t, Steps p.tables e below (s₁.setTop (mkF m 52 #[.val (.long q1), .second, .val (.long q2), .second, .val (.long xh), .second, .val (.long xl), .second, .val (.long yh), .second, .val (.long yl), .second, .val (.long z0), .second, .val (.long t1), .second, .unset, .unset, .unset, .unset] [(.long (t1 &&& (4294967295 : Int64)))])) t → Steps p.tables e below (s₁.setTop (entryFrame m #[(.long q1), (.long q2)] 20)) t := by
    intro t kt
    refine K12 t ?_
    show Steps p.tables e below (s₁.setTop (mkF m 44 #[.val (.long q1), .second, .val (.long q2), .second, .val (.long xh), .second, .val (.long xl), .second, .val (.long yh), .second, .val (.long yl), .second, .val (.long z0), .second, .unset, .unset, .unset, .unset, .unset, .unset] [(.long t1)])) _
    refine XS.lstore X0.here hx rfl (hb hby d3_44) rfl (l' := #[.val (.long q1), .second, .val (.long q2), .second, .val (.long xh), .second, .val (.long xl), .second, .val (.long yh), .second, .val (.long yl), .second, .val (.long z0), .second, .val (.long t1), .second, .unset, .unset, .unset, .unset]) rfl ?_
    show Steps p.tables e below (s₁.setTop (mkF m 46 #[.val (.long q1), .second, .val (.long q2), .second, .val (.long xh), .second, .val (.long xl), .second, .val (.long yh), .second, .val (.long yl), .second, .val (.long z0), .second, .val (.long t1), .second, .unset, .unset, .unset, .unset] [])) _
    refine XS.lload X0.here hx rfl (hb hby d3_46) rfl ?_
    show Steps p.tables e below (s₁.setTop (mkF m 48 #[.val (.long q1), .second, .val (.long q2), .second, .val (.long xh), .second, .val (.long xl), .second, .val (.long yh), .second, .val (.long yl), .second, .val (.long z0), .second, .val (.long t1), .second, .unset, .unset, .unset, .unset] [(.long t1)])) _
    refine X0.ldc2Long hx hown (mvT hZ (hw _ (List.mem_of_getElem? (i := 12) rfl))) (g := (mkF m 48 #[.val (.long q1), .second, .val (.long q2), .second, .val (.long xh), .second, .val (.long xl), .second, .val (.long yh), .second, .val (.long yl), .second, .val (.long z0), .second, .val (.long t1), .second, .unset, .unset, .unset, .unset] [(.long t1)])) rfl (hb hby d3_48) _ ?_
    show Steps p.tables e below (s₁.setTop (mkF m 51 #[.val (.long q1), .second, .val (.long q2), .second, .val (.long xh), .second, .val (.long xl), .second, .val (.long yh), .second, .val (.long yl), .second, .val (.long z0), .second, .val (.long t1), .second, .unset, .unset, .unset, .unset] [(.long (4294967295 : Int64)), (.long t1)])) _
    refine XS.land X0.here hx rfl (hb hby d3_51) rfl ?_
    exact kt
  obtain ⟨w1, hw1⟩ : ∃ z : Int64, z = (t1 &&& (4294967295 : Int64)) := ⟨_, rfl⟩
  have K14 : ∀ t, Steps p.tables e below (s₁.setTop (mkF m 52 #[.val (.long q1), .second, .val (.long q2), .second, .val (.long xh), .second, .val (.long xl), .second, .val (.long yh), .second, .val (.long yl), .second, .val (.long z0), .second, .val (.long t1), .second, .unset, .unset, .unset, .unset] [(.long w1)])) t → Steps p.tables e below (s₁.setTop (entryFrame m #[(.long q1), (.long q2)] 20)) t := by
    rw [hw1]; exact K13
  have K15 : ∀ t, Steps p.tables e below (s₁.setTop (mkF m 59 #[.val (.long q1), .second, .val (.long q2), .second, .val (.long xh), .second, .val (.long xl), .second, .val (.long yh), .second, .val (.long yl), .second, .val (.long z0), .second, .val (.long t1), .second, .val (.long w1), .second, .unset, .unset] [(.long (t1 >>> ((32 : Int32) &&& 0x3f).toInt64))])) t → Steps p.tables e below (s₁.setTop (entryFrame m #[(.long q1), (.long q2)] 20)) t := by
    intro t kt
    refine K14 t ?_
    show Steps p.tables e below (s₁.setTop (mkF m 52 #[.val (.long q1), .second, .val (.long q2), .second, .val (.long xh), .second, .val (.long xl), .second, .val (.long yh), .second, .val (.long yl), .second, .val (.long z0), .second, .val (.long t1), .second, .unset, .unset, .unset, .unset] [(.long w1)])) _
    refine XS.lstore X0.here hx rfl (hb hby d3_52) rfl (l' := #[.val (.long q1), .second, .val (.long q2), .second, .val (.long xh), .second, .val (.long xl), .second, .val (.long yh), .second, .val (.long yl), .second, .val (.long z0), .second, .val (.long t1), .second, .val (.long w1), .second, .unset, .unset]) rfl ?_
    show Steps p.tables e below (s₁.setTop (mkF m 54 #[.val (.long q1), .second, .val (.long q2), .second, .val (.long xh), .second, .val (.long xl), .second, .val (.long yh), .second, .val (.long yl), .second, .val (.long z0), .second, .val (.long t1), .second, .val (.long w1), .second, .unset, .unset] [])) _
    refine XS.lload X0.here hx rfl (hb hby d3_54) rfl ?_
    show Steps p.tables e below (s₁.setTop (mkF m 56 #[.val (.long q1), .second, .val (.long q2), .second, .val (.long xh), .second, .val (.long xl), .second, .val (.long yh), .second, .val (.long yl), .second, .val (.long z0), .second, .val (.long t1), .second, .val (.long w1), .second, .unset, .unset] [(.long t1)])) _
    refine XS.bipush X0.here hx rfl (hb hby d3_56) ?_
    show Steps p.tables e below (s₁.setTop (mkF m 58 #[.val (.long q1), .second, .val (.long q2), .second, .val (.long xh), .second, .val (.long xl), .second, .val (.long yh), .second, .val (.long yl), .second, .val (.long z0), .second, .val (.long t1), .second, .val (.long w1), .second, .unset, .unset] [(.int (32 : Int32)), (.long t1)])) _
    refine XS.lshr X0.here hx rfl (hb hby d3_58) rfl ?_
    exact kt
  obtain ⟨w2, hw2⟩ : ∃ z : Int64, z = (t1 >>> ((32 : Int32) &&& 0x3f).toInt64) := ⟨_, rfl⟩
  have K16 : ∀ t, Steps p.tables e below (s₁.setTop (mkF m 59 #[.val (.long q1), .second, .val (.long q2), .second, .val (.long xh), .second, .val (.long xl), .second, .val (.long yh), .second, .val (.long yl), .second, .val (.long z0), .second, .val (.long t1), .second, .val (.long w1), .second, .unset, .unset] [(.long w2)])) t → Steps p.tables e below (s₁.setTop (entryFrame m #[(.long q1), (.long q2)] 20)) t := by
    rw [hw2]; exact K15
  have K17 : ∀ t, Steps p.tables e below (s₁.setTop (mkF m 69 #[.val (.long q1), .second, .val (.long q2), .second, .val (.long xh), .second, .val (.long xl), .second, .val (.long yh), .second, .val (.long yl), .second, .val (.long z0), .second, .val (.long t1), .second, .val (.long w1), .second, .val (.long w2), .second] [(.long (w1 + (xl * yh)))])) t → Steps p.tables e below (s₁.setTop (entryFrame m #[(.long q1), (.long q2)] 20)) t := by
    intro t kt
    refine K16 t ?_
    show Steps p.tables e below (s₁.setTop (mkF m 59 #[.val (.long q1), .second, .val (.long q2), .second, .val (.long xh), .second, .val (.long xl), .second, .val (.long yh), .second, .val (.long yl), .second, .val (.long z0), .second, .val (.long t1), .second, .val (.long w1), .second, .unset, .unset] [(.long w2)])) _
    refine XS.lstore X0.here hx rfl (hb hby d3_59) rfl (l' := #[.val (.long q1), .second, .val (.long q2), .second, .val (.long xh), .second, .val (.long xl), .second, .val (.long yh), .second, .val (.long yl), .second, .val (.long z0), .second, .val (.long t1), .second, .val (.long w1), .second, .val (.long w2), .second]) rfl ?_
    show Steps p.tables e below (s₁.setTop (mkF m 61 #[.val (.long q1), .second, .val (.long q2), .second, .val (.long xh), .second, .val (.long xl), .second, .val (.long yh), .second, .val (.long yl), .second, .val (.long z0), .second, .val (.long t1), .second, .val (.long w1), .second, .val (.long w2), .second] [])) _
    refine XS.lload X0.here hx rfl (hb hby d3_61) rfl ?_
    show Steps p.tables e below (s₁.setTop (mkF m 63 #[.val (.long q1), .second, .val (.long q2), .second, .val (.long xh), .second, .val (.long xl), .second, .val (.long yh), .second, .val (.long yl), .second, .val (.long z0), .second, .val (.long t1), .second, .val (.long w1), .second, .val (.long w2), .second] [(.long w1)])) _
    refine XS.lload X0.here hx rfl (hb hby d3_63) rfl ?_
    show Steps p.tables e below (s₁.setTop (mkF m 65 #[.val (.long q1), .second, .val (.long q2), .second, .val (.long xh), .second, .val (.long xl), .second, .val (.long yh), .second, .val (.long yl), .second, .val (.long z0), .second, .val (.long t1), .second, .val (.long w1), .second, .val (.long w2), .second] [(.long xl), (.long w1)])) _
    refine XS.lload X0.here hx rfl (hb hby d3_65) rfl ?_
    show Steps p.tables e below (s₁.setTop (mkF m 67 #[.val (.long q1), .second, .val (.long q2), .second, .val (.long xh), .second, .val (.long xl), .second, .val (.long yh), .second, .val (.long yl), .second, .val (.long z0), .second, .val (.long t1), .second, .val (.long w1), .second, .val (.long w2), .second] [(.long yh), (.long xl), (.long w1)])) _
    refine XS.lmul X0.here hx rfl (hb hby d3_67) rfl ?_
    show Steps p.tables e below (s₁.setTop (mkF m 68 #[.val (.long q1), .second, .val (.long q2), .second, .val (.long xh), .second, .val (.long xl), .second, .val (.long yh), .second, .val (.long yl), .second, .val (.long z0), .second, .val (.long t1), .second, .val (.long w1), .second, .val (.long w2), .second] [(.long (xl * yh)), (.long w1)])) _
    refine XS.ladd X0.here hx rfl (hb hby d3_68) rfl ?_
    exact kt
  obtain ⟨w3, hw3⟩ : ∃ z : Int64, z = (w1 + (xl * yh)) := ⟨_, rfl⟩
  have K18 : ∀ t, Steps p.tables e below (s₁.setTop (mkF m 69 #[.val (.long q1), .second, .val (.long q2), .second, .val (.long xh), .second, .val (.long xl), .second, .val (.long yh), .second, .val (.long yl), .second, .val (.long z0), .second, .val (.long t1), .second, .val (.long w1), .second, .val (.long w2), .second] [(.long w3)])) t → Steps p.tables e below (s₁.setTop (entryFrame m #[(.long q1), (.long q2)] 20)) t := by
    rw [hw3]; exact K17
  have K19 : ∀ t, Steps p.tables e below (s₁.setTop (mkF m 85 #[.val (.long q1), .second, .val (.long q2), .second, .val (.long xh), .second, .val (.long xl), .second, .val (.long yh), .second, .val (.long yl), .second, .val (.long z0), .second, .val (.long t1), .second, .val (.long w3), .second, .val (.long w2), .second] [(.long (((xh * yh) + w2) + (w3 >>> ((32 : Int32) &&& 0x3f).toInt64)))])) t → Steps p.tables e below (s₁.setTop (entryFrame m #[(.long q1), (.long q2)] 20)) t := by
    intro t kt
    refine K18 t ?_
    show Steps p.tables e below (s₁.setTop (mkF m 69 #[.val (.long q1), .second, .val (.long q2), .second, .val (.long xh), .second, .val (.long xl), .second, .val (.long yh), .second, .val (.long yl), .second, .val (.long z0), .second, .val (.long t1), .second, .val (.long w1), .second, .val (.long w2), .second] [(.long w3)])) _
    refine XS.lstore X0.here hx rfl (hb hby d3_69) rfl (l' := #[.val (.long q1), .second, .val (.long q2), .second, .val (.long xh), .second, .val (.long xl), .second, .val (.long yh), .second, .val (.long yl), .second, .val (.long z0), .second, .val (.long t1), .second, .val (.long w3), .second, .val (.long w2), .second]) rfl ?_
    show Steps p.tables e below (s₁.setTop (mkF m 71 #[.val (.long q1), .second, .val (.long q2), .second, .val (.long xh), .second, .val (.long xl), .second, .val (.long yh), .second, .val (.long yl), .second, .val (.long z0), .second, .val (.long t1), .second, .val (.long w3), .second, .val (.long w2), .second] [])) _
    refine XS.lload X0.here hx rfl (hb hby d3_71) rfl ?_
    show Steps p.tables e below (s₁.setTop (mkF m 73 #[.val (.long q1), .second, .val (.long q2), .second, .val (.long xh), .second, .val (.long xl), .second, .val (.long yh), .second, .val (.long yl), .second, .val (.long z0), .second, .val (.long t1), .second, .val (.long w3), .second, .val (.long w2), .second] [(.long xh)])) _
    refine XS.lload X0.here hx rfl (hb hby d3_73) rfl ?_
    show Steps p.tables e below (s₁.setTop (mkF m 75 #[.val (.long q1), .second, .val (.long q2), .second, .val (.long xh), .second, .val (.long xl), .second, .val (.long yh), .second, .val (.long yl), .second, .val (.long z0), .second, .val (.long t1), .second, .val (.long w3), .second, .val (.long w2), .second] [(.long yh), (.long xh)])) _
    refine XS.lmul X0.here hx rfl (hb hby d3_75) rfl ?_
    show Steps p.tables e below (s₁.setTop (mkF m 76 #[.val (.long q1), .second, .val (.long q2), .second, .val (.long xh), .second, .val (.long xl), .second, .val (.long yh), .second, .val (.long yl), .second, .val (.long z0), .second, .val (.long t1), .second, .val (.long w3), .second, .val (.long w2), .second] [(.long (xh * yh))])) _
    refine XS.lload X0.here hx rfl (hb hby d3_76) rfl ?_
    show Steps p.tables e below (s₁.setTop (mkF m 78 #[.val (.long q1), .second, .val (.long q2), .second, .val (.long xh), .second, .val (.long xl), .second, .val (.long yh), .second, .val (.long yl), .second, .val (.long z0), .second, .val (.long t1), .second, .val (.long w3), .second, .val (.long w2), .second] [(.long w2), (.long (xh * yh))])) _
    refine XS.ladd X0.here hx rfl (hb hby d3_78) rfl ?_
    show Steps p.tables e below (s₁.setTop (mkF m 79 #[.val (.long q1), .second, .val (.long q2), .second, .val (.long xh), .second, .val (.long xl), .second, .val (.long yh), .second, .val (.long yl), .second, .val (.long z0), .second, .val (.long t1), .second, .val (.long w3), .second, .val (.long w2), .second] [(.long ((xh * yh) + w2))])) _
    refine XS.lload X0.here hx rfl (hb hby d3_79) rfl ?_
    show Steps p.tables e below (s₁.setTop (mkF m 81 #[.val (.long q1), .second, .val (.long q2), .second, .val (.long xh), .second, .val (.long xl), .second, .val (.long yh), .second, .val (.long yl), .second, .val (.long z0), .second, .val (.long t1), .second, .val (.long w3), .second, .val (.long w2), .second] [(.long w3), (.long ((xh * yh) + w2))])) _
    refine XS.bipush X0.here hx rfl (hb hby d3_81) ?_
    show Steps p.tables e below (s₁.setTop (mkF m 83 #[.val (.long q1), .second, .val (.long q2), .second, .val (.long xh), .second, .val (.long xl), .second, .val (.long yh), .second, .val (.long yl), .second, .val (.long z0), .second, .val (.long t1), .second, .val (.long w3), .second, .val (.long w2), .second] [(.int (32 : Int32)), (.long w3), (.long ((xh * yh) + w2))])) _
    refine XS.lshr X0.here hx rfl (hb hby d3_83) rfl ?_
    show Steps p.tables e below (s₁.setTop (mkF m 84 #[.val (.long q1), .second, .val (.long q2), .second, .val (.long xh), .second, .val (.long xl), .second, .val (.long yh), .second, .val (.long yl), .second, .val (.long z0), .second, .val (.long t1), .second, .val (.long w3), .second, .val (.long w2), .second] [(.long (w3 >>> ((32 : Int32) &&& 0x3f).toInt64)), (.long ((xh * yh) + w2))])) _
    refine XS.ladd X0.here hx rfl (hb hby d3_84) rfl ?_
    exact kt
  obtain ⟨r9, hr9⟩ : ∃ z : Int64, z = (((xh * yh) + w2) + (w3 >>> ((32 : Int32) &&& 0x3f).toInt64)) := ⟨_, rfl⟩
  have K20 : ∀ t, Steps p.tables e below (s₁.setTop (mkF m 85 #[.val (.long q1), .second, .val (.long q2), .second, .val (.long xh), .second, .val (.long xl), .second, .val (.long yh), .second, .val (.long yl), .second, .val (.long z0), .second, .val (.long t1), .second, .val (.long w3), .second, .val (.long w2), .second] [(.long r9)])) t → Steps p.tables e below (s₁.setTop (entryFrame m #[(.long q1), (.long q2)] 20)) t := by
    rw [hr9]; exact K19
  obtain ⟨fs, hr, hrun, hended, hW, hsame⟩ := X0.leave (v := some (.long r9)) (fun h => by rw [Bd.returns] at h; cases h) (hlocks := hlk)
  refine ⟨_, _, K20 _ ?_, hrun, hended, _, _, rfl, ?_, ⟨_, rfl⟩, hW, hsame.mono (by decide) (by decide)⟩
  · exact retOut X0 hx Bd.returns rfl (Or.inr (Or.inl ⟨rfl, rfl, _, rfl⟩)) (hb hby d3_85) hr
  · show Qrm3 q1 q2 h0 n0 _ s₁.heap _
    rw [e0]
    exact ⟨_, rfl, own_mhigh p1 p2 hxh hxl hyh hyl hz0 ht1 hw1 hw2 hw3 hr9, N0, rfl⟩
theorem ef_rm4 (m : MethodId) (x0 : Int64) (x1 : Int64) : entryFrame m #[(.long x0), (.long x1)] 22 = mkF m 0 #[.val (.long x0), .second, .val (.long x1), .second, .unset, .unset, .unset, .unset, .unset, .unset, .unset, .unset, .unset, .unset, .unset, .unset, .unset, .unset, .unset, .unset, .unset, .unset] [] := by first | (simp [entryFrame, mkF, argsToLocals, Value.category]; done) | rfl
def Qrm4 (q1 q2 : Int64) (h0 : Heap) (n0 : Nat) (v : Option Value) (h : Heap) (L : List Loc) : Prop := ∃ r : Int64, v = some (.long r) ∧ r.toInt = q1.toInt * q2.toInt / 18446744073709551616 ∧ Fr n0 L ∧ h = h0
set_option maxRecDepth 65536 in
set_option maxHeartbeats 40000000 in
theorem rm4 (l : Launch) (Z : State) (a0 : Array Value) (hw : ∀ d ∈ tables_1, d.before a0 Z = true) (ws : List Jvm.Cond) (q1 q2 : Int64) (h0 : Heap) (n0 : Nat) (Z0 : n0 ≤ h0.size) (p1 : 0 ≤ q1.toInt) (p2 : 0 ≤ q2.toInt) :
    MetFree l (⟨"com/example/limtok/limtok/ExactMathMultiplyDividePinLaw", "mulHi", "(JJ)J"⟩ : MethodName) (head1 (Jvm.Cond.code (⟨"com/example/limtok/limtok/ExactMathMultiplyDividePinLaw", "mulHi", "(JJ)J"⟩ : MethodName) method_3_code 22 (some .long) :: ws) ({ frames := 0, cells := 0, slots := 0, locals := 0 } : Room)) (fun a U => a = #[(.long q1), (.long q2)] ∧ Z.Warmed39 U.vm ∧ U.heap = h0) (fun _ _ _ _ _ => True) (fun _ U o U' => ∃ v L, o = .returned v ∧ Qrm4 q1 q2 h0 n0 v U'.heap L ∧ FrameEnd U o U' L ({ frames := 0, cells := 0, slots := 0, locals := 0 } : Room).cells ({ frames := 0, cells := 0, slots := 0, locals := 0 } : Room).slots) := by
  refine MetFree.of_bodySF (plainFor_of_name pn_0) hisR ?_
  intro p e s m args below meth c s₁ Bd hml0 hP hK
  obtain ⟨rfl, hZ, hh⟩ := hP
  have hx := Bd.exec
  have hlk : meth.locks = false := BodyLoose.notSynchronized Bd
  have hby := Bd.bytes
  have hml : c.maxLocals = 22 := hml0
  have hown : s.vm.findClass "com/example/limtok/limtok/ExactMathMultiplyDividePinLaw" = some m.cls := findClass_of_methodNamed Bd.named
  have hnm := (name_of_methodNamed Bd.named Bd.method).1
  have X0 : Stand p l e ({ frames := 0, cells := 0, slots := 0, locals := 0 } : Room) s m #[(.long q1), (.long q2)] below meth c s₁ [] 0 0 := Stand.of_body Bd
  have e0 : s₁.heap = h0 := by rw [← hh, Bd.state]; rfl
  have N0 := Fr.nil n0
  have K0 : ∀ t, Steps p.tables e below (s₁.setTop (mkF m 0 #[.val (.long q1), .second, .val (.long q2), .second, .unset, .unset, .unset, .unset, .unset, .unset, .unset, .unset, .unset, .unset, .unset, .unset, .unset, .unset, .unset, .unset, .unset, .unset] [])) t → Steps p.tables e below (s₁.setTop (entryFrame m #[(.long q1), (.long q2)] 22)) t := fun t k => castTop (ef_rm4 m q1 q2) k
  have K1 : ∀ t, Steps p.tables e below (s₁.setTop (mkF m 5 #[.val (.long q1), .second, .val (.long q2), .second, .unset, .unset, .unset, .unset, .unset, .unset, .unset, .unset, .unset, .unset, .unset, .unset, .unset, .unset, .unset, .unset, .unset, .unset] [(.long (q1 &&& (4294967295 : Int64)))])) t → Steps p.tables e below (s₁.setTop (entryFrame m #[(.long q1), (.long q2)] 22)) t := by
    intro t kt
    refine K0 t ?_
    show Steps p.tables e below (s₁.setTop (mkF m 0 #[.val (.long q1), .second, .val (.long q2), .second, .unset, .unset, .unset, .unset, .unset, .unset, .unset, .unset, .unset, .unset, .unset, .unset, .unset, .unset, .unset, .unset, .unset, .unset] [])) _
    refine XS.lloadN X0.here hx rfl (hb hby d4_0) rfl ?_
    show Steps p.tables e below (s₁.setTop (mkF m 1 #[.val (.long q1), .second, .val (.long q2), .second, .unset, .unset, .unset, .unset, .unset, .unset, .unset, .unset, .unset, .unset, .unset, .unset, .unset, .unset, .unset, .unset, .unset, .unset] [(.long q1)])) _
    refine X0.ldc2Long hx hown (mvT hZ (hw _ (List.mem_of_getElem? (i := 17) rfl))) (g := (mkF m 1 #[.val (.long q1), .second, .val (.long q2), .second, .unset, .unset, .unset, .unset, .unset, .unset, .unset, .unset, .unset, .unset, .unset, .unset, .unset, .unset, .unset, .unset, .unset, .unset] [(.long q1)])) rfl (hb hby d4_1) _ ?_
    show Steps p.tables e below (s₁.setTop (mkF m 4 #[.val (.long q1), .second, .val (.long q2), .second, .unset, .unset, .unset, .unset, .unset, .unset, .unset, .unset, .unset, .unset, .unset, .unset, .unset, .unset, .unset, .unset, .unset, .unset] [(.long (4294967295 : Int64)), (.long q1)])) _
    refine XS.land X0.here hx rfl (hb hby d4_4) rfl ?_
    exact kt
  obtain ⟨xl, hxl⟩ : ∃ z : Int64, z = (q1 &&& (4294967295 : Int64)) := ⟨_, rfl⟩
  have K2 : ∀ t, Steps p.tables e below (s₁.setTop (mkF m 5 #[.val (.long q1), .second, .val (.long q2), .second, .unset, .unset, .unset, .unset, .unset, .unset, .unset, .unset, .unset, .unset, .unset, .unset, .unset, .unset, .unset, .unset, .unset, .unset] [(.long xl)])) t → Steps p.tables e below (s₁.setTop (entryFrame m #[(.long q1), (.long q2)] 22)) t := by
    rw [hxl]; exact K1
  have K3 : ∀ t, Steps p.tables e below (s₁.setTop (mkF m 11 #[.val (.long q1), .second, .val (.long q2), .second, .val (.long xl), .second, .unset, .unset, .unset, .unset, .unset, .unset, .unset, .unset, .unset, .unset, .unset, .unset, .unset, .unset, .unset, .unset] [(.long ((q1.toUInt64 >>> ((32 : Int32) &&& 0x3f).toInt64.toUInt64).toInt64))])) t → Steps p.tables e below (s₁.setTop (entryFrame m #[(.long q1), (.long q2)] 22)) t := by
    intro t kt
    refine K2 t ?_
    show Steps p.tables e below (s₁.setTop (mkF m 5 #[.val (.long q1), .second, .val (.long q2), .second, .unset, .unset, .unset, .unset, .unset, .unset, .unset, .unset, .unset, .unset, .unset, .unset, .unset, .unset, .unset, .unset, .unset, .unset] [(.long xl)])) _
    refine XS.lstore X0.here hx rfl (hb hby d4_5) rfl (l' := #[.val (.long q1), .second, .val (.long q2), .second, .val (.long xl), .second, .unset, .unset, .unset, .unset, .unset, .unset, .unset, .unset, .unset, .unset, .unset, .unset, .unset, .unset, .unset, .unset]) rfl ?_
    show Steps p.tables e below (s₁.setTop (mkF m 7 #[.val (.long q1), .second, .val (.long q2), .second, .val (.long xl), .second, .unset, .unset, .unset, .unset, .unset, .unset, .unset, .unset, .unset, .unset, .unset, .unset, .unset, .unset, .unset, .unset] [])) _
    refine XS.lloadN X0.here hx rfl (hb hby d4_7) rfl ?_
    show Steps p.tables e below (s₁.setTop (mkF m 8 #[.val (.long q1), .second, .val (.long q2), .second, .val (.long xl), .second, .unset, .unset, .unset, .unset, .unset, .unset, .unset, .unset, .unset, .unset, .unset, .unset, .unset, .unset, .unset, .unset] [(.long q1)])) _
    refine XS.bipush X0.here hx rfl (hb hby d4_8) ?_
    show Steps p.tables e below (s₁.setTop (mkF m 10 #[.val (.long q1), .second, .val (.long q2), .second, .val (.long xl), .second, .unset, .unset, .unset, .unset, .unset, .unset, .unset, .unset, .unset, .unset, .unset, .unset, .unset, .unset, .unset, .unset] [(.int (32 : Int32)), (.long q1)])) _
    refine XS.lushr X0.here hx rfl (hb hby d4_10) rfl ?_
    exact kt
  obtain ⟨xh, hxh⟩ : ∃ z : Int64, z = ((q1.toUInt64 >>> ((32 : Int32) &&& 0x3f).toInt64.toUInt64).toInt64) := ⟨_, rfl⟩
  have K4 : ∀ t, Steps p.tables e below (s₁.setTop (mkF m 11 #[.val (.long q1), .second, .val (.long q2), .second, .val (.long xl), .second, .unset, .unset, .unset, .unset, .unset, .unset, .unset, .unset, .unset, .unset, .unset, .unset, .unset, .unset, .unset, .unset] [(.long xh)])) t → Steps p.tables e below (s₁.setTop (entryFrame m #[(.long q1), (.long q2)] 22)) t := by
    rw [hxh]; exact K3
  have K5 : ∀ t, Steps p.tables e below (s₁.setTop (mkF m 18 #[.val (.long q1), .second, .val (.long q2), .second, .val (.long xl), .second, .val (.long xh), .second, .unset, .unset, .unset, .unset, .unset, .unset, .unset, .unset, .unset, .unset, .unset, .unset, .unset, .unset] [(.long (q2 &&& (4294967295 : Int64)))])) t → Steps p.tables e below (s₁.setTop (entryFrame m #[(.long q1), (.long q2)] 22)) t := by
    intro t kt
    refine K4 t ?_
    show Steps p.tables e below (s₁.setTop (mkF m 11 #[.val (.long q1), .second, .val (.long q2), .second, .val (.long xl), .second, .unset, .unset, .unset, .unset, .unset, .unset, .unset, .unset, .unset, .unset, .unset, .unset, .unset, .unset, .unset, .unset] [(.long xh)])) _
    refine XS.lstore X0.here hx rfl (hb hby d4_11) rfl (l' := #[.val (.long q1), .second, .val (.long q2), .second, .val (.long xl), .second, .val (.long xh), .second, .unset, .unset, .unset, .unset, .unset, .unset, .unset, .unset, .unset, .unset, .unset, .unset, .unset, .unset]) rfl ?_
    show Steps p.tables e below (s₁.setTop (mkF m 13 #[.val (.long q1), .second, .val (.long q2), .second, .val (.long xl), .second, .val (.long xh), .second, .unset, .unset, .unset, .unset, .unset, .unset, .unset, .unset, .unset, .unset, .unset, .unset, .unset, .unset] [])) _
    refine XS.lloadN X0.here hx rfl (hb hby d4_13) rfl ?_
    show Steps p.tables e below (s₁.setTop (mkF m 14 #[.val (.long q1), .second, .val (.long q2), .second, .val (.long xl), .second, .val (.long xh), .second, .unset, .unset, .unset, .unset, .unset, .unset, .unset, .unset, .unset, .unset, .unset, .unset, .unset, .unset] [(.long q2)])) _
    refine X0.ldc2Long hx hown (mvT hZ (hw _ (List.mem_of_getElem? (i := 17) rfl))) (g := (mkF m 14 #[.val (.long q1), .second, .val (.long q2), .second, .val (.long xl), .second, .val (.long xh), .second, .unset, .unset, .unset, .unset, .unset, .unset, .unset, .unset, .unset, .unset, .unset, .unset, .unset, .unset] [(.long q2)])) rfl (hb hby d4_14) _ ?_
    show Steps p.tables e below (s₁.setTop (mkF m 17 #[.val (.long q1), .second, .val (.long q2), .second, .val (.long xl), .second, .val (.long xh), .second, .unset, .unset, .unset, .unset, .unset, .unset, .unset, .unset, .unset, .unset, .unset, .unset, .unset, .unset] [(.long (4294967295 : Int64)), (.long q2)])) _
    refine XS.land X0.here hx rfl (hb hby d4_17) rfl ?_
    exact kt
  obtain ⟨yl, hyl⟩ : ∃ z : Int64, z = (q2 &&& (4294967295 : Int64)) := ⟨_, rfl⟩
  have K6 : ∀ t, Steps p.tables e below (s₁.setTop (mkF m 18 #[.val (.long q1), .second, .val (.long q2), .second, .val (.long xl), .second, .val (.long xh), .second, .unset, .unset, .unset, .unset, .unset, .unset, .unset, .unset, .unset, .unset, .unset, .unset, .unset, .unset] [(.long yl)])) t → Steps p.tables e below (s₁.setTop (entryFrame m #[(.long q1), (.long q2)] 22)) t := by
    rw [hyl]; exact K5
  have K7 : ∀ t, Steps p.tables e below (s₁.setTop (mkF m 24 #[.val (.long q1), .second, .val (.long q2), .second, .val (.long xl), .second, .val (.long xh), .second, .val (.long yl), .second, .unset, .unset, .unset, .unset, .unset, .unset, .unset, .unset, .unset, .unset, .unset, .unset] [(.long ((q2.toUInt64 >>> ((32 : Int32) &&& 0x3f).toInt64.toUInt64).toInt64))])) t → Steps p.tables e below (s₁.setTop (entryFrame m #[(.long q1), (.long q2)] 22)) t := by
    intro t kt
    refine K6 t ?_
    show Steps p.tables e below (s₁.setTop (mkF m 18 #[.val (.long q1), .second, .val (.long q2), .second, .val (.long xl), .second, .val (.long xh), .second, .unset, .unset, .unset, .unset, .unset, .unset, .unset, .unset, .unset, .unset, .unset, .unset, .unset, .unset] [(.long yl)])) _
    refine XS.lstore X0.here hx rfl (hb hby d4_18) rfl (l' := #[.val (.long q1), .second, .val (.long q2), .second, .val (.long xl), .second, .val (.long xh), .second, .val (.long yl), .second, .unset, .unset, .unset, .unset, .unset, .unset, .unset, .unset, .unset, .unset, .unset, .unset]) rfl ?_
    show Steps p.tables e below (s₁.setTop (mkF m 20 #[.val (.long q1), .second, .val (.long q2), .second, .val (.long xl), .second, .val (.long xh), .second, .val (.long yl), .second, .unset, .unset, .unset, .unset, .unset, .unset, .unset, .unset, .unset, .unset, .unset, .unset] [])) _
    refine XS.lloadN X0.here hx rfl (hb hby d4_20) rfl ?_
    show Steps p.tables e below (s₁.setTop (mkF m 21 #[.val (.long q1), .second, .val (.long q2), .second, .val (.long xl), .second, .val (.long xh), .second, .val (.long yl), .second, .unset, .unset, .unset, .unset, .unset, .unset, .unset, .unset, .unset, .unset, .unset, .unset] [(.long q2)])) _
    refine XS.bipush X0.here hx rfl (hb hby d4_21) ?_
    show Steps p.tables e below (s₁.setTop (mkF m 23 #[.val (.long q1), .second, .val (.long q2), .second, .val (.long xl), .second, .val (.long xh), .second, .val (.long yl), .second, .unset, .unset, .unset, .unset, .unset, .unset, .unset, .unset, .unset, .unset, .unset, .unset] [(.int (32 : Int32)), (.long q2)])) _
    refine XS.lushr X0.here hx rfl (hb hby d4_23) rfl ?_
    exact kt
  obtain ⟨yh, hyh⟩ : ∃ z : Int64, z = ((q2.toUInt64 >>> ((32 : Int32) &&& 0x3f).toInt64.toUInt64).toInt64) := ⟨_, rfl⟩
  have K8 : ∀ t, Steps p.tables e below (s₁.setTop (mkF m 24 #[.val (.long q1), .second, .val (.long q2), .second, .val (.long xl), .second, .val (.long xh), .second, .val (.long yl), .second, .unset, .unset, .unset, .unset, .unset, .unset, .unset, .unset, .unset, .unset, .unset, .unset] [(.long yh)])) t → Steps p.tables e below (s₁.setTop (entryFrame m #[(.long q1), (.long q2)] 22)) t := by
    rw [hyh]; exact K7
  have K9 : ∀ t, Steps p.tables e below (s₁.setTop (mkF m 31 #[.val (.long q1), .second, .val (.long q2), .second, .val (.long xl), .second, .val (.long xh), .second, .val (.long yl), .second, .val (.long yh), .second, .unset, .unset, .unset, .unset, .unset, .unset, .unset, .unset, .unset, .unset] [(.long (xl * yl))])) t → Steps p.tables e below (s₁.setTop (entryFrame m #[(.long q1), (.long q2)] 22)) t := by
    intro t kt
    refine K8 t ?_
    show Steps p.tables e below (s₁.setTop (mkF m 24 #[.val (.long q1), .second, .val (.long q2), .second, .val (.long xl), .second, .val (.long xh), .second, .val (.long yl), .second, .unset, .unset, .unset, .unset, .unset, .unset, .unset, .unset, .unset, .unset, .unset, .unset] [(.long yh)])) _
    refine XS.lstore X0.here hx rfl (hb hby d4_24) rfl (l' := #[.val (.long q1), .second, .val (.long q2), .second, .val (.long xl), .second, .val (.long xh), .second, .val (.long yl), .second, .val (.long yh), .second, .unset, .unset, .unset, .unset, .unset, .unset, .unset, .unset, .unset, .unset]) rfl ?_
    show Steps p.tables e below (s₁.setTop (mkF m 26 #[.val (.long q1), .second, .val (.long q2), .second, .val (.long xl), .second, .val (.long xh), .second, .val (.long yl), .second, .val (.long yh), .second, .unset, .unset, .unset, .unset, .unset, .unset, .unset, .unset, .unset, .unset] [])) _
    refine XS.lload X0.here hx rfl (hb hby d4_26) rfl ?_
    show Steps p.tables e below (s₁.setTop (mkF m 28 #[.val (.long q1), .second, .val (.long q2), .second, .val (.long xl), .second, .val (.long xh), .second, .val (.long yl), .second, .val (.long yh), .second, .unset, .unset, .unset, .unset, .unset, .unset, .unset, .unset, .unset, .unset] [(.long xl)])) _
    refine XS.lload X0.here hx rfl (hb hby d4_28) rfl ?_
    show Steps p.tables e below (s₁.setTop (mkF m 30 #[.val (.long q1), .second, .val (.long q2), .second, .val (.long xl), .second, .val (.long xh), .second, .val (.long yl), .second, .val (.long yh), .second, .unset, .unset, .unset, .unset, .unset, .unset, .unset, .unset, .unset, .unset] [(.long yl), (.long xl)])) _
    refine XS.lmul X0.here hx rfl (hb hby d4_30) rfl ?_
    exact kt
  obtain ⟨ll, hll⟩ : ∃ z : Int64, z = (xl * yl) := ⟨_, rfl⟩
  have K10 : ∀ t, Steps p.tables e below (s₁.setTop (mkF m 31 #[.val (.long q1), .second, .val (.long q2), .second, .val (.long xl), .second, .val (.long xh), .second, .val (.long yl), .second, .val (.long yh), .second, .unset, .unset, .unset, .unset, .unset, .unset, .unset, .unset, .unset, .unset] [(.long ll)])) t → Steps p.tables e below (s₁.setTop (entryFrame m #[(.long q1), (.long q2)] 22)) t := by
    rw [hll]; exact K9
  have K11 : ∀ t, Steps p.tables e below (s₁.setTop (mkF m 38 #[.val (.long q1), .second, .val (.long q2), .second, .val (.long xl), .second, .val (.long xh), .second, .val (.long yl), .second, .val (.long yh), .second, .val (.long ll), .second, .unset, .unset, .unset, .unset, .unset, .unset, .unset, .unset] [(.long (xl * yh))])) t → Steps p.tables e below (s₁.setTop (entryFrame m #[(.long q1), (.long q2)] 22)) t := by
    intro t kt
    refine K10 t ?_
    show Steps p.tables e below (s₁.setTop (mkF m 31 #[.val (.long q1), .second, .val (.long q2), .second, .val (.long xl), .second, .val (.long xh), .second, .val (.long yl), .second, .val (.long yh), .second, .unset, .unset, .unset, .unset, .unset, .unset, .unset, .unset, .unset, .unset] [(.long ll)])) _
    refine XS.lstore X0.here hx rfl (hb hby d4_31) rfl (l' := #[.val (.long q1), .second, .val (.long q2), .second, .val (.long xl), .second, .val (.long xh), .second, .val (.long yl), .second, .val (.long yh), .second, .val (.long ll), .second, .unset, .unset, .unset, .unset, .unset, .unset, .unset, .unset]) rfl ?_
    show Steps p.tables e below (s₁.setTop (mkF m 33 #[.val (.long q1), .second, .val (.long q2), .second, .val (.long xl), .second, .val (.long xh), .second, .val (.long yl), .second, .val (.long yh), .second, .val (.long ll), .second, .unset, .unset, .unset, .unset, .unset, .unset, .unset, .unset] [])) _
    refine XS.lload X0.here hx rfl (hb hby d4_33) rfl ?_
    show Steps p.tables e below (s₁.setTop (mkF m 35 #[.val (.long q1), .second, .val (.long q2), .second, .val (.long xl), .second, .val (.long xh), .second, .val (.long yl), .second, .val (.long yh), .second, .val (.long ll), .second, .unset, .unset, .unset, .unset, .unset, .unset, .unset, .unset] [(.long xl)])) _
    refine XS.lload X0.here hx rfl (hb hby d4_35) rfl ?_
    show Steps p.tables e below (s₁.setTop (mkF m 37 #[.val (.long q1), .second, .val (.long q2), .second, .val (.long xl), .second, .val (.long xh), .second, .val (.long yl), .second, .val (.long yh), .second, .val (.long ll), .second, .unset, .unset, .unset, .unset, .unset, .unset, .unset, .unset] [(.long yh), (.long xl)])) _
    refine XS.lmul X0.here hx rfl (hb hby d4_37) rfl ?_
    exact kt
  obtain ⟨lh, hlh⟩ : ∃ z : Int64, z = (xl * yh) := ⟨_, rfl⟩
  have K12 : ∀ t, Steps p.tables e below (s₁.setTop (mkF m 38 #[.val (.long q1), .second, .val (.long q2), .second, .val (.long xl), .second, .val (.long xh), .second, .val (.long yl), .second, .val (.long yh), .second, .val (.long ll), .second, .unset, .unset, .unset, .unset, .unset, .unset, .unset, .unset] [(.long lh)])) t → Steps p.tables e below (s₁.setTop (entryFrame m #[(.long q1), (.long q2)] 22)) t := by
    rw [hlh]; exact K11
  have K13 : ∀ t, Steps p.tables e below (s₁.setTop (mkF m 45 #[.val (.long q1), .second, .val (.long q2), .second, .val (.long xl), .second, .val (.long xh), .second, .val (.long yl), .second, .val (.long yh), .second, .val (.long ll), .second, .val (.long lh), .second, .unset, .unset, .unset, .unset, .unset, .unset] [(.long (xh * yl))])) t → Steps p.tables e below (s₁.setTop (entryFrame m #[(.long q1), (.long q2)] 22)) t := by
    intro t kt
    refine K12 t ?_
    show Steps p.tables e below (s₁.setTop (mkF m 38 #[.val (.long q1), .second, .val (.long q2), .second, .val (.long xl), .second, .val (.long xh), .second, .val (.long yl), .second, .val (.long yh), .second, .val (.long ll), .second, .unset, .unset, .unset, .unset, .unset, .unset, .unset, .unset] [(.long lh)])) _
    refine XS.lstore X0.here hx rfl (hb hby d4_38) rfl (l' := #[.val (.long q1), .second, .val (.long q2), .second, .val (.long xl), .second, .val (.long xh), .second, .val (.long yl), .second, .val (.long yh), .second, .val (.long ll), .second, .val (.long lh), .second, .unset, .unset, .unset, .unset, .unset, .unset]) rfl ?_
    show Steps p.tables e below (s₁.setTop (mkF m 40 #[.val (.long q1), .second, .val (.long q2), .second, .val (.long xl), .second, .val (.long xh), .second, .val (.long yl), .second, .val (.long yh), .second, .val (.long ll), .second, .val (.long lh), .second, .unset, .unset, .unset, .unset, .unset, .unset] [])) _
    refine XS.lload X0.here hx rfl (hb hby d4_40) rfl ?_
    show Steps p.tables e below (s₁.setTop (mkF m 42 #[.val (.long q1), .second, .val (.long q2), .second, .val (.long xl), .second, .val (.long xh), .second, .val (.long yl), .second, .val (.long yh), .second, .val (.long ll), .second, .val (.long lh), .second, .unset, .unset, .unset, .unset, .unset, .unset] [(.long xh)])) _
    refine XS.lload X0.here hx rfl (hb hby d4_42) rfl ?_
    show Steps p.tables e below (s₁.setTop (mkF m 44 #[.val (.long q1), .second, .val (.long q2), .second, .val (.long xl), .second, .val (.long xh), .second, .val (.long yl), .second, .val (.long yh), .second, .val (.long ll), .second, .val (.long lh), .second, .unset, .unset, .unset, .unset, .unset, .unset] [(.long yl), (.long xh)])) _
    refine XS.lmul X0.here hx rfl (hb hby d4_44) rfl ?_
    exact kt
  obtain ⟨hl, hhl⟩ : ∃ z : Int64, z = (xh * yl) := ⟨_, rfl⟩
  have K14 : ∀ t, Steps p.tables e below (s₁.setTop (mkF m 45 #[.val (.long q1), .second, .val (.long q2), .second, .val (.long xl), .second, .val (.long xh), .second, .val (.long yl), .second, .val (.long yh), .second, .val (.long ll), .second, .val (.long lh), .second, .unset, .unset, .unset, .unset, .unset, .unset] [(.long hl)])) t → Steps p.tables e below (s₁.setTop (entryFrame m #[(.long q1), (.long q2)] 22)) t := by
    rw [hhl]; exact K13
  have K15 : ∀ t, Steps p.tables e below (s₁.setTop (mkF m 52 #[.val (.long q1), .second, .val (.long q2), .second, .val (.long xl), .second, .val (.long xh), .second, .val (.long yl), .second, .val (.long yh), .second, .val (.long ll), .second, .val (.long lh), .second, .val (.long hl), .second, .unset, .unset, .unset, .unset] [(.long (xh * yh))])) t → Steps p.tables e below (s₁.setTop (entryFrame m #[(.long q1), (.long q2)] 22)) t := by
    intro t kt
    refine K14 t ?_
    show Steps p.tables e below (s₁.setTop (mkF m 45 #[.val (.long q1), .second, .val (.long q2), .second, .val (.long xl), .second, .val (.long xh), .second, .val (.long yl), .second, .val (.long yh), .second, .val (.long ll), .second, .val (.long lh), .second, .unset, .unset, .unset, .unset, .unset, .unset] [(.long hl)])) _
    refine XS.lstore X0.here hx rfl (hb hby d4_45) rfl (l' := #[.val (.long q1), .second, .val (.long q2), .second, .val (.long xl), .second, .val (.long xh), .second, .val (.long yl), .second, .val (.long yh), .second, .val (.long ll), .second, .val (.long lh), .second, .val (.long hl), .second, .unset, .unset, .unset, .unset]) rfl ?_
    show Steps p.tables e below (s₁.setTop (mkF m 47 #[.val (.long q1), .second, .val (.long q2), .second, .val (.long xl), .second, .val (.long xh), .second, .val (.long yl), .second, .val (.long yh), .second, .val (.long ll), .second, .val (.long lh), .second, .val (.long hl), .second, .unset, .unset, .unset, .unset] [])) _
    refine XS.lload X0.here hx rfl (hb hby d4_47) rfl ?_
    show Steps p.tables e below (s₁.setTop (mkF m 49 #[.val (.long q1), .second, .val (.long q2), .second, .val (.long xl), .second, .val (.long xh), .second, .val (.long yl), .second, .val (.long yh), .second, .val (.long ll), .second, .val (.long lh), .second, .val (.long hl), .second, .unset, .unset, .unset, .unset] [(.long xh)])) _
    refine XS.lload X0.here hx rfl (hb hby d4_49) rfl ?_
    show Steps p.tables e below (s₁.setTop (mkF m 51 #[.val (.long q1), .second, .val (.long q2), .second, .val (.long xl), .second, .val (.long xh), .second, .val (.long yl), .second, .val (.long yh), .second, .val (.long ll), .second, .val (.long lh), .second, .val (.long hl), .second, .unset, .unset, .unset, .unset] [(.long yh), (.long xh)])) _
    refine XS.lmul X0.here hx rfl (hb hby d4_51) rfl ?_
    exact kt
  obtain ⟨hi, hhi⟩ : ∃ z : Int64, z = (xh * yh) := ⟨_, rfl⟩
  have K16 : ∀ t, Steps p.tables e below (s₁.setTop (mkF m 52 #[.val (.long q1), .second, .val (.long q2), .second, .val (.long xl), .second, .val (.long xh), .second, .val (.long yl), .second, .val (.long yh), .second, .val (.long ll), .second, .val (.long lh), .second, .val (.long hl), .second, .unset, .unset, .unset, .unset] [(.long hi)])) t → Steps p.tables e below (s₁.setTop (entryFrame m #[(.long q1), (.long q2)] 22)) t := by
    rw [hhi]; exact K15
  have K17 : ∀ t, Steps p.tables e below (s₁.setTop (mkF m 73 #[.val (.long q1), .second, .val (.long q2), .second, .val (.long xl), .second, .val (.long xh), .second, .val (.long yl), .second, .val (.long yh), .second, .val (.long ll), .second, .val (.long lh), .second, .val (.long hl), .second, .val (.long hi), .second, .unset, .unset] [(.long ((((ll.toUInt64 >>> ((32 : Int32) &&& 0x3f).toInt64.toUInt64).toInt64) + (lh &&& (4294967295 : Int64))) + (hl &&& (4294967295 : Int64))))])) t → Steps p.tables e below (s₁.setTop (entryFrame m #[(.long q1), (.long q2)] 22)) t := by
    intro t kt
    refine K16 t ?_
    show Steps p.tables e below (s₁.setTop (mkF m 52 #[.val (.long q1), .second, .val (.long q2), .second, .val (.long xl), .second, .val (.long xh), .second, .val (.long yl), .second, .val (.long yh), .second, .val (.long ll), .second, .val (.long lh), .second, .val (.long hl), .second, .unset, .unset, .unset, .unset] [(.long hi)])) _
    refine XS.lstore X0.here hx rfl (hb hby d4_52) rfl (l' := #[.val (.long q1), .second, .val (.long q2), .second, .val (.long xl), .second, .val (.long xh), .second, .val (.long yl), .second, .val (.long yh), .second, .val (.long ll), .second, .val (.long lh), .second, .val (.long hl), .second, .val (.long hi), .second, .unset, .unset]) rfl ?_
    show Steps p.tables e below (s₁.setTop (mkF m 54 #[.val (.long q1), .second, .val (.long q2), .second, .val (.long xl), .second, .val (.long xh), .second, .val (.long yl), .second, .val (.long yh), .second, .val (.long ll), .second, .val (.long lh), .second, .val (.long hl), .second, .val (.long hi), .second, .unset, .unset] [])) _
    refine XS.lload X0.here hx rfl (hb hby d4_54) rfl ?_
    show Steps p.tables e below (s₁.setTop (mkF m 56 #[.val (.long q1), .second, .val (.long q2), .second, .val (.long xl), .second, .val (.long xh), .second, .val (.long yl), .second, .val (.long yh), .second, .val (.long ll), .second, .val (.long lh), .second, .val (.long hl), .second, .val (.long hi), .second, .unset, .unset] [(.long ll)])) _
    refine XS.bipush X0.here hx rfl (hb hby d4_56) ?_
    show Steps p.tables e below (s₁.setTop (mkF m 58 #[.val (.long q1), .second, .val (.long q2), .second, .val (.long xl), .second, .val (.long xh), .second, .val (.long yl), .second, .val (.long yh), .second, .val (.long ll), .second, .val (.long lh), .second, .val (.long hl), .second, .val (.long hi), .second, .unset, .unset] [(.int (32 : Int32)), (.long ll)])) _
    refine XS.lushr X0.here hx rfl (hb hby d4_58) rfl ?_
    show Steps p.tables e below (s₁.setTop (mkF m 59 #[.val (.long q1), .second, .val (.long q2), .second, .val (.long xl), .second, .val (.long xh), .second, .val (.long yl), .second, .val (.long yh), .second, .val (.long ll), .second, .val (.long lh), .second, .val (.long hl), .second, .val (.long hi), .second, .unset, .unset] [(.long ((ll.toUInt64 >>> ((32 : Int32) &&& 0x3f).toInt64.toUInt64).toInt64))])) _
    refine XS.lload X0.here hx rfl (hb hby d4_59) rfl ?_
    show Steps p.tables e below (s₁.setTop (mkF m 61 #[.val (.long q1), .second, .val (.long q2), .second, .val (.long xl), .second, .val (.long xh), .second, .val (.long yl), .second, .val (.long yh), .second, .val (.long ll), .second, .val (.long lh), .second, .val (.long hl), .second, .val (.long hi), .second, .unset, .unset] [(.long lh), (.long ((ll.toUInt64 >>> ((32 : Int32) &&& 0x3f).toInt64.toUInt64).toInt64))])) _
    refine X0.ldc2Long hx hown (mvT hZ (hw _ (List.mem_of_getElem? (i := 17) rfl))) (g := (mkF m 61 #[.val (.long q1), .second, .val (.long q2), .second, .val (.long xl), .second, .val (.long xh), .second, .val (.long yl), .second, .val (.long yh), .second, .val (.long ll), .second, .val (.long lh), .second, .val (.long hl), .second, .val (.long hi), .second, .unset, .unset] [(.long lh), (.long ((ll.toUInt64 >>> ((32 : Int32) &&& 0x3f).toInt64.toUInt64).toInt64))])) rfl (hb hby d4_61) _ ?_
    show Steps p.tables e below (s₁.setTop (mkF m 64 #[.val (.long q1), .second, .val (.long q2), .second, .val (.long xl), .second, .val (.long xh), .second, .val (.long yl), .second, .val (.long yh), .second, .val (.long ll), .second, .val (.long lh), .second, .val (.long hl), .second, .val (.long hi), .second, .unset, .unset] [(.long (4294967295 : Int64)), (.long lh), (.long ((ll.toUInt64 >>> ((32 : Int32) &&& 0x3f).toInt64.toUInt64).toInt64))])) _
    refine XS.land X0.here hx rfl (hb hby d4_64) rfl ?_
    show Steps p.tables e below (s₁.setTop (mkF m 65 #[.val (.long q1), .second, .val (.long q2), .second, .val (.long xl), .second, .val (.long xh), .second, .val (.long yl), .second, .val (.long yh), .second, .val (.long ll), .second, .val (.long lh), .second, .val (.long hl), .second, .val (.long hi), .second, .unset, .unset] [(.long (lh &&& (4294967295 : Int64))), (.long ((ll.toUInt64 >>> ((32 : Int32) &&& 0x3f).toInt64.toUInt64).toInt64))])) _
    refine XS.ladd X0.here hx rfl (hb hby d4_65) rfl ?_
    show Steps p.tables e below (s₁.setTop (mkF m 66 #[.val (.long q1), .second, .val (.long q2), .second, .val (.long xl), .second, .val (.long xh), .second, .val (.long yl), .second, .val (.long yh), .second, .val (.long ll), .second, .val (.long lh), .second, .val (.long hl), .second, .val (.long hi), .second, .unset, .unset] [(.long (((ll.toUInt64 >>> ((32 : Int32) &&& 0x3f).toInt64.toUInt64).toInt64) + (lh &&& (4294967295 : Int64))))])) _
    refine XS.lload X0.here hx rfl (hb hby d4_66) rfl ?_
    show Steps p.tables e below (s₁.setTop (mkF m 68 #[.val (.long q1), .second, .val (.long q2), .second, .val (.long xl), .second, .val (.long xh), .second, .val (.long yl), .second, .val (.long yh), .second, .val (.long ll), .second, .val (.long lh), .second, .val (.long hl), .second, .val (.long hi), .second, .unset, .unset] [(.long hl), (.long (((ll.toUInt64 >>> ((32 : Int32) &&& 0x3f).toInt64.toUInt64).toInt64) + (lh &&& (4294967295 : Int64))))])) _
    refine X0.ldc2Long hx hown (mvT hZ (hw _ (List.mem_of_getElem? (i := 17) rfl))) (g := (mkF m 68 #[.val (.long q1), .second, .val (.long q2), .second, .val (.long xl), .second, .val (.long xh), .second, .val (.long yl), .second, .val (.long yh), .second, .val (.long ll), .second, .val (.long lh), .second, .val (.long hl), .second, .val (.long hi), .second, .unset, .unset] [(.long hl), (.long (((ll.toUInt64 >>> ((32 : Int32) &&& 0x3f).toInt64.toUInt64).toInt64) + (lh &&& (4294967295 : Int64))))])) rfl (hb hby d4_68) _ ?_
    show Steps p.tables e below (s₁.setTop (mkF m 71 #[.val (.long q1), .second, .val (.long q2), .second, .val (.long xl), .second, .val (.long xh), .second, .val (.long yl), .second, .val (.long yh), .second, .val (.long ll), .second, .val (.long lh), .second, .val (.long hl), .second, .val (.long hi), .second, .unset, .unset] [(.long (4294967295 : Int64)), (.long hl), (.long (((ll.toUInt64 >>> ((32 : Int32) &&& 0x3f).toInt64.toUInt64).toInt64) + (lh &&& (4294967295 : Int64))))])) _
    refine XS.land X0.here hx rfl (hb hby d4_71) rfl ?_
    show Steps p.tables e below (s₁.setTop (mkF m 72 #[.val (.long q1), .second, .val (.long q2), .second, .val (.long xl), .second, .val (.long xh), .second, .val (.long yl), .second, .val (.long yh), .second, .val (.long ll), .second, .val (.long lh), .second, .val (.long hl), .second, .val (.long hi), .second, .unset, .unset] [(.long (hl &&& (4294967295 : Int64))), (.long (((ll.toUInt64 >>> ((32 : Int32) &&& 0x3f).toInt64.toUInt64).toInt64) + (lh &&& (4294967295 : Int64))))])) _
    refine XS.ladd X0.here hx rfl (hb hby d4_72) rfl ?_
    exact kt
  obtain ⟨md, hmd⟩ : ∃ z : Int64, z = ((((ll.toUInt64 >>> ((32 : Int32) &&& 0x3f).toInt64.toUInt64).toInt64) + (lh &&& (4294967295 : Int64))) + (hl &&& (4294967295 : Int64))) := ⟨_, rfl⟩
  have K18 : ∀ t, Steps p.tables e below (s₁.setTop (mkF m 73 #[.val (.long q1), .second, .val (.long q2), .second, .val (.long xl), .second, .val (.long xh), .second, .val (.long yl), .second, .val (.long yh), .second, .val (.long ll), .second, .val (.long lh), .second, .val (.long hl), .second, .val (.long hi), .second, .unset, .unset] [(.long md)])) t → Steps p.tables e below (s₁.setTop (entryFrame m #[(.long q1), (.long q2)] 22)) t := by
    rw [hmd]; exact K17
  have K19 : ∀ t, Steps p.tables e below (s₁.setTop (mkF m 95 #[.val (.long q1), .second, .val (.long q2), .second, .val (.long xl), .second, .val (.long xh), .second, .val (.long yl), .second, .val (.long yh), .second, .val (.long ll), .second, .val (.long lh), .second, .val (.long hl), .second, .val (.long hi), .second, .val (.long md), .second] [(.long (((hi + ((lh.toUInt64 >>> ((32 : Int32) &&& 0x3f).toInt64.toUInt64).toInt64)) + ((hl.toUInt64 >>> ((32 : Int32) &&& 0x3f).toInt64.toUInt64).toInt64)) + ((md.toUInt64 >>> ((32 : Int32) &&& 0x3f).toInt64.toUInt64).toInt64)))])) t → Steps p.tables e below (s₁.setTop (entryFrame m #[(.long q1), (.long q2)] 22)) t := by
    intro t kt
    refine K18 t ?_
    show Steps p.tables e below (s₁.setTop (mkF m 73 #[.val (.long q1), .second, .val (.long q2), .second, .val (.long xl), .second, .val (.long xh), .second, .val (.long yl), .second, .val (.long yh), .second, .val (.long ll), .second, .val (.long lh), .second, .val (.long hl), .second, .val (.long hi), .second, .unset, .unset] [(.long md)])) _
    refine XS.lstore X0.here hx rfl (hb hby d4_73) rfl (l' := #[.val (.long q1), .second, .val (.long q2), .second, .val (.long xl), .second, .val (.long xh), .second, .val (.long yl), .second, .val (.long yh), .second, .val (.long ll), .second, .val (.long lh), .second, .val (.long hl), .second, .val (.long hi), .second, .val (.long md), .second]) rfl ?_
    show Steps p.tables e below (s₁.setTop (mkF m 75 #[.val (.long q1), .second, .val (.long q2), .second, .val (.long xl), .second, .val (.long xh), .second, .val (.long yl), .second, .val (.long yh), .second, .val (.long ll), .second, .val (.long lh), .second, .val (.long hl), .second, .val (.long hi), .second, .val (.long md), .second] [])) _
    refine XS.lload X0.here hx rfl (hb hby d4_75) rfl ?_
    show Steps p.tables e below (s₁.setTop (mkF m 77 #[.val (.long q1), .second, .val (.long q2), .second, .val (.long xl), .second, .val (.long xh), .second, .val (.long yl), .second, .val (.long yh), .second, .val (.long ll), .second, .val (.long lh), .second, .val (.long hl), .second, .val (.long hi), .second, .val (.long md), .second] [(.long hi)])) _
    refine XS.lload X0.here hx rfl (hb hby d4_77) rfl ?_
    show Steps p.tables e below (s₁.setTop (mkF m 79 #[.val (.long q1), .second, .val (.long q2), .second, .val (.long xl), .second, .val (.long xh), .second, .val (.long yl), .second, .val (.long yh), .second, .val (.long ll), .second, .val (.long lh), .second, .val (.long hl), .second, .val (.long hi), .second, .val (.long md), .second] [(.long lh), (.long hi)])) _
    refine XS.bipush X0.here hx rfl (hb hby d4_79) ?_
    show Steps p.tables e below (s₁.setTop (mkF m 81 #[.val (.long q1), .second, .val (.long q2), .second, .val (.long xl), .second, .val (.long xh), .second, .val (.long yl), .second, .val (.long yh), .second, .val (.long ll), .second, .val (.long lh), .second, .val (.long hl), .second, .val (.long hi), .second, .val (.long md), .second] [(.int (32 : Int32)), (.long lh), (.long hi)])) _
    refine XS.lushr X0.here hx rfl (hb hby d4_81) rfl ?_
    show Steps p.tables e below (s₁.setTop (mkF m 82 #[.val (.long q1), .second, .val (.long q2), .second, .val (.long xl), .second, .val (.long xh), .second, .val (.long yl), .second, .val (.long yh), .second, .val (.long ll), .second, .val (.long lh), .second, .val (.long hl), .second, .val (.long hi), .second, .val (.long md), .second] [(.long ((lh.toUInt64 >>> ((32 : Int32) &&& 0x3f).toInt64.toUInt64).toInt64)), (.long hi)])) _
    refine XS.ladd X0.here hx rfl (hb hby d4_82) rfl ?_
    show Steps p.tables e below (s₁.setTop (mkF m 83 #[.val (.long q1), .second, .val (.long q2), .second, .val (.long xl), .second, .val (.long xh), .second, .val (.long yl), .second, .val (.long yh), .second, .val (.long ll), .second, .val (.long lh), .second, .val (.long hl), .second, .val (.long hi), .second, .val (.long md), .second] [(.long (hi + ((lh.toUInt64 >>> ((32 : Int32) &&& 0x3f).toInt64.toUInt64).toInt64)))])) _
    refine XS.lload X0.here hx rfl (hb hby d4_83) rfl ?_
    show Steps p.tables e below (s₁.setTop (mkF m 85 #[.val (.long q1), .second, .val (.long q2), .second, .val (.long xl), .second, .val (.long xh), .second, .val (.long yl), .second, .val (.long yh), .second, .val (.long ll), .second, .val (.long lh), .second, .val (.long hl), .second, .val (.long hi), .second, .val (.long md), .second] [(.long hl), (.long (hi + ((lh.toUInt64 >>> ((32 : Int32) &&& 0x3f).toInt64.toUInt64).toInt64)))])) _
    refine XS.bipush X0.here hx rfl (hb hby d4_85) ?_
    show Steps p.tables e below (s₁.setTop (mkF m 87 #[.val (.long q1), .second, .val (.long q2), .second, .val (.long xl), .second, .val (.long xh), .second, .val (.long yl), .second, .val (.long yh), .second, .val (.long ll), .second, .val (.long lh), .second, .val (.long hl), .second, .val (.long hi), .second, .val (.long md), .second] [(.int (32 : Int32)), (.long hl), (.long (hi + ((lh.toUInt64 >>> ((32 : Int32) &&& 0x3f).toInt64.toUInt64).toInt64)))])) _
    refine XS.lushr X0.here hx rfl (hb hby d4_87) rfl ?_
    show Steps p.tables e below (s₁.setTop (mkF m 88 #[.val (.long q1), .second, .val (.long q2), .second, .val (.long xl), .second, .val (.long xh), .second, .val (.long yl), .second, .val (.long yh), .second, .val (.long ll), .second, .val (.long lh), .second, .val (.long hl), .second, .val (.long hi), .second, .val (.long md), .second] [(.long ((hl.toUInt64 >>> ((32 : Int32) &&& 0x3f).toInt64.toUInt64).toInt64)), (.long (hi + ((lh.toUInt64 >>> ((32 : Int32) &&& 0x3f).toInt64.toUInt64).toInt64)))])) _
    refine XS.ladd X0.here hx rfl (hb hby d4_88) rfl ?_
    show Steps p.tables e below (s₁.setTop (mkF m 89 #[.val (.long q1), .second, .val (.long q2), .second, .val (.long xl), .second, .val (.long xh), .second, .val (.long yl), .second, .val (.long yh), .second, .val (.long ll), .second, .val (.long lh), .second, .val (.long hl), .second, .val (.long hi), .second, .val (.long md), .second] [(.long ((hi + ((lh.toUInt64 >>> ((32 : Int32) &&& 0x3f).toInt64.toUInt64).toInt64)) + ((hl.toUInt64 >>> ((32 : Int32) &&& 0x3f).toInt64.toUInt64).toInt64)))])) _
    refine XS.lload X0.here hx rfl (hb hby d4_89) rfl ?_
    show Steps p.tables e below (s₁.setTop (mkF m 91 #[.val (.long q1), .second, .val (.long q2), .second, .val (.long xl), .second, .val (.long xh), .second, .val (.long yl), .second, .val (.long yh), .second, .val (.long ll), .second, .val (.long lh), .second, .val (.long hl), .second, .val (.long hi), .second, .val (.long md), .second] [(.long md), (.long ((hi + ((lh.toUInt64 >>> ((32 : Int32) &&& 0x3f).toInt64.toUInt64).toInt64)) + ((hl.toUInt64 >>> ((32 : Int32) &&& 0x3f).toInt64.toUInt64).toInt64)))])) _
    refine XS.bipush X0.here hx rfl (hb hby d4_91) ?_
    show Steps p.tables e below (s₁.setTop (mkF m 93 #[.val (.long q1), .second, .val (.long q2), .second, .val (.long xl), .second, .val (.long xh), .second, .val (.long yl), .second, .val (.long yh), .second, .val (.long ll), .second, .val (.long lh), .second, .val (.long hl), .second, .val (.long hi), .second, .val (.long md), .second] [(.int (32 : Int32)), (.long md), (.long ((hi + ((lh.toUInt64 >>> ((32 : Int32) &&& 0x3f).toInt64.toUInt64).toInt64)) + ((hl.toUInt64 >>> ((32 : Int32) &&& 0x3f).toInt64.toUInt64).toInt64)))])) _
    refine XS.lushr X0.here hx rfl (hb hby d4_93) rfl ?_
    show Steps p.tables e below (s₁.setTop (mkF m 94 #[.val (.long q1), .second, .val (.long q2), .second, .val (.long xl), .second, .val (.long xh), .second, .val (.long yl), .second, .val (.long yh), .second, .val (.long ll), .second, .val (.long lh), .second, .val (.long hl), .second, .val (.long hi), .second, .val (.long md), .second] [(.long ((md.toUInt64 >>> ((32 : Int32) &&& 0x3f).toInt64.toUInt64).toInt64)), (.long ((hi + ((lh.toUInt64 >>> ((32 : Int32) &&& 0x3f).toInt64.toUInt64).toInt64)) + ((hl.toUInt64 >>> ((32 : Int32) &&& 0x3f).toInt64.toUInt64).toInt64)))])) _
    refine XS.ladd X0.here hx rfl (hb hby d4_94) rfl ?_
    exact kt
  obtain ⟨r9, hr9⟩ : ∃ z : Int64, z = (((hi + ((lh.toUInt64 >>> ((32 : Int32) &&& 0x3f).toInt64.toUInt64).toInt64)) + ((hl.toUInt64 >>> ((32 : Int32) &&& 0x3f).toInt64.toUInt64).toInt64)) + ((md.toUInt64 >>> ((32 : Int32) &&& 0x3f).toInt64.toUInt64).toInt64)) := ⟨_, rfl⟩
  have K20 : ∀ t, Steps p.tables e below (s₁.setTop (mkF m 95 #[.val (.long q1), .second, .val (.long q2), .second, .val (.long xl), .second, .val (.long xh), .second, .val (.long yl), .second, .val (.long yh), .second, .val (.long ll), .second, .val (.long lh), .second, .val (.long hl), .second, .val (.long hi), .second, .val (.long md), .second] [(.long r9)])) t → Steps p.tables e below (s₁.setTop (entryFrame m #[(.long q1), (.long q2)] 22)) t := by
    rw [hr9]; exact K19
  obtain ⟨fs, hr, hrun, hended, hW, hsame⟩ := X0.leave (v := some (.long r9)) (fun h => by rw [Bd.returns] at h; cases h) (hlocks := hlk)
  refine ⟨_, _, K20 _ ?_, hrun, hended, _, _, rfl, ?_, ⟨_, rfl⟩, hW, hsame.mono (by decide) (by decide)⟩
  · exact retOut X0 hx Bd.returns rfl (Or.inr (Or.inl ⟨rfl, rfl, _, rfl⟩)) (hb hby d4_95) hr
  · show Qrm4 q1 q2 h0 n0 _ s₁.heap _
    rw [e0]
    exact ⟨_, rfl, own_mulhi p1 p2 hxl hxh hyl hyh hll hlh hhl hhi hmd hr9, N0, rfl⟩
theorem ef_rm5 (m : MethodId) (x0 : Int64) (x1 : Int64) : entryFrame m #[(.long x0), (.long x1)] 4 = mkF m 0 #[.val (.long x0), .second, .val (.long x1), .second] [] := by first | (simp [entryFrame, mkF, argsToLocals, Value.category]; done) | rfl
def Qrm5 (q1 q2 : Int64) (h0 : Heap) (n0 : Nat) (v : Option Value) (h : Heap) (L : List Loc) : Prop := ∃ r : Int32, v = some (.int r) ∧ (r = 1 ∧ UL q1 < UL q2 ∨ r = 0 ∧ ¬ UL q1 < UL q2) ∧ Fr n0 L ∧ h = h0
set_option maxRecDepth 65536 in
set_option maxHeartbeats 40000000 in
theorem rm5 (l : Launch) (Z : State) (a0 : Array Value) (hw : ∀ d ∈ tables_1, d.before a0 Z = true) (ws : List Jvm.Cond) (q1 q2 : Int64) (h0 : Heap) (n0 : Nat) (Z0 : n0 ≤ h0.size)  :
    MetFree l (⟨"com/example/limtok/limtok/ExactMathMultiplyDividePinLaw", "ult", "(JJ)Z"⟩ : MethodName) (head1 (Jvm.Cond.code (⟨"com/example/limtok/limtok/ExactMathMultiplyDividePinLaw", "ult", "(JJ)Z"⟩ : MethodName) method_2_code 4 (some .boolean) :: ws) ({ frames := 0, cells := 0, slots := 0, locals := 0 } : Room)) (fun a U => a = #[(.long q1), (.long q2)] ∧ Z.Warmed39 U.vm ∧ U.heap = h0) (fun _ _ _ _ _ => True) (fun _ U o U' => ∃ v L, o = .returned v ∧ Qrm5 q1 q2 h0 n0 v U'.heap L ∧ FrameEnd U o U' L ({ frames := 0, cells := 0, slots := 0, locals := 0 } : Room).cells ({ frames := 0, cells := 0, slots := 0, locals := 0 } : Room).slots) := by
  refine MetFree.of_bodySF (plainFor_of_name pn_0) hisR ?_
  intro p e s m args below meth c s₁ Bd hml0 hP hK
  obtain ⟨rfl, hZ, hh⟩ := hP
  have hx := Bd.exec
  have hlk : meth.locks = false := BodyLoose.notSynchronized Bd
  have hby := Bd.bytes
  have hml : c.maxLocals = 4 := hml0
  have hown : s.vm.findClass "com/example/limtok/limtok/ExactMathMultiplyDividePinLaw" = some m.cls := findClass_of_methodNamed Bd.named
  have hnm := (name_of_methodNamed Bd.named Bd.method).1
  have X0 : Stand p l e ({ frames := 0, cells := 0, slots := 0, locals := 0 } : Room) s m #[(.long q1), (.long q2)] below meth c s₁ [] 0 0 := Stand.of_body Bd
  have e0 : s₁.heap = h0 := by rw [← hh, Bd.state]; rfl
  have N0 := Fr.nil n0
  have K0 : ∀ t, Steps p.tables e below (s₁.setTop (mkF m 0 #[.val (.long q1), .second, .val (.long q2), .second] [])) t → Steps p.tables e below (s₁.setTop (entryFrame m #[(.long q1), (.long q2)] 4)) t := fun t k => castTop (ef_rm5 m q1 q2) k
  have K1 : ∀ t, Steps p.tables e below (s₁.setTop (mkF m 11 #[.val (.long q1), .second, .val (.long q2), .second] [(.int (lcmpW (q1 + (-9223372036854775808 : Int64)) (q2 + (-9223372036854775808 : Int64))))])) t → Steps p.tables e below (s₁.setTop (entryFrame m #[(.long q1), (.long q2)] 4)) t := by
    intro t kt
    refine K0 t ?_
    show Steps p.tables e below (s₁.setTop (mkF m 0 #[.val (.long q1), .second, .val (.long q2), .second] [])) _
    refine XS.lloadN X0.here hx rfl (hb hby d5_0) rfl ?_
    show Steps p.tables e below (s₁.setTop (mkF m 1 #[.val (.long q1), .second, .val (.long q2), .second] [(.long q1)])) _
    refine X0.ldc2Long hx hown (mvT hZ (hw _ (List.mem_of_getElem? (i := 21) rfl))) (g := (mkF m 1 #[.val (.long q1), .second, .val (.long q2), .second] [(.long q1)])) rfl (hb hby d5_1) _ ?_
    show Steps p.tables e below (s₁.setTop (mkF m 4 #[.val (.long q1), .second, .val (.long q2), .second] [(.long (-9223372036854775808 : Int64)), (.long q1)])) _
    refine XS.ladd X0.here hx rfl (hb hby d5_4) rfl ?_
    show Steps p.tables e below (s₁.setTop (mkF m 5 #[.val (.long q1), .second, .val (.long q2), .second] [(.long (q1 + (-9223372036854775808 : Int64)))])) _
    refine XS.lloadN X0.here hx rfl (hb hby d5_5) rfl ?_
    show Steps p.tables e below (s₁.setTop (mkF m 6 #[.val (.long q1), .second, .val (.long q2), .second] [(.long q2), (.long (q1 + (-9223372036854775808 : Int64)))])) _
    refine X0.ldc2Long hx hown (mvT hZ (hw _ (List.mem_of_getElem? (i := 21) rfl))) (g := (mkF m 6 #[.val (.long q1), .second, .val (.long q2), .second] [(.long q2), (.long (q1 + (-9223372036854775808 : Int64)))])) rfl (hb hby d5_6) _ ?_
    show Steps p.tables e below (s₁.setTop (mkF m 9 #[.val (.long q1), .second, .val (.long q2), .second] [(.long (-9223372036854775808 : Int64)), (.long q2), (.long (q1 + (-9223372036854775808 : Int64)))])) _
    refine XS.ladd X0.here hx rfl (hb hby d5_9) rfl ?_
    show Steps p.tables e below (s₁.setTop (mkF m 10 #[.val (.long q1), .second, .val (.long q2), .second] [(.long (q2 + (-9223372036854775808 : Int64))), (.long (q1 + (-9223372036854775808 : Int64)))])) _
    refine XS.lcmp X0.here hx rfl (hb hby d5_10) rfl ?_
    exact kt
  by_cases hc : (lcmpW (q1 + (-9223372036854775808 : Int64)) (q2 + (-9223372036854775808 : Int64))) < (0 : Int32)
  · have K2 : ∀ t, Steps p.tables e below (s₁.setTop (mkF m 19 #[.val (.long q1), .second, .val (.long q2), .second] [(.int (1 : Int32))])) t → Steps p.tables e below (s₁.setTop (entryFrame m #[(.long q1), (.long q2)] 4)) t := by
      intro t kt
      refine K1 t ?_
      show Steps p.tables e below (s₁.setTop (mkF m 11 #[.val (.long q1), .second, .val (.long q2), .second] [(.int (lcmpW (q1 + (-9223372036854775808 : Int64)) (q2 + (-9223372036854775808 : Int64))))])) _
      refine XS.ifNo X0.here hx rfl (hb hby d5_11) rfl ((if0 _ _).trans (tlt (hc : (lcmpW (q1 + (-9223372036854775808 : Int64)) (q2 + (-9223372036854775808 : Int64))) < (0 : Int32))).2.1) ?_
      show Steps p.tables e below (s₁.setTop (mkF m 14 #[.val (.long q1), .second, .val (.long q2), .second] [])) _
      refine XS.iconst X0.here hx rfl (hb hby d5_14) ?_
      show Steps p.tables e below (s₁.setTop (mkF m 15 #[.val (.long q1), .second, .val (.long q2), .second] [(.int (1 : Int32))])) _
      refine XS.goto X0.here hx rfl (pc0 := 15) (pc' := 19) rfl (hb hby d5_15) (by decide) (by decide) ?_
      exact kt
    obtain ⟨fs, hr, hrun, hended, hW, hsame⟩ := X0.leave (v := some (.int (1 : Int32))) (fun h => by rw [Bd.returns] at h; cases h) (hlocks := hlk)
    refine ⟨_, _, K2 _ ?_, hrun, hended, _, _, rfl, ?_, ⟨_, rfl⟩, hW, hsame.mono (by decide) (by decide)⟩
    · exact retN X0 hx (t := .boolean) Bd.returns (by simp) (hb hby d5_19) hr
    · show Qrm5 q1 q2 h0 n0 _ s₁.heap _
      rw [e0]
      exact ⟨_, rfl, Or.inl ⟨rfl, own_ult1 hc⟩, N0, rfl⟩
  · have K3 : ∀ t, Steps p.tables e below (s₁.setTop (mkF m 19 #[.val (.long q1), .second, .val (.long q2), .second] [(.int (0 : Int32))])) t → Steps p.tables e below (s₁.setTop (entryFrame m #[(.long q1), (.long q2)] 4)) t := by
      intro t kt
      refine K1 t ?_
      show Steps p.tables e below (s₁.setTop (mkF m 11 #[.val (.long q1), .second, .val (.long q2), .second] [(.int (lcmpW (q1 + (-9223372036854775808 : Int64)) (q2 + (-9223372036854775808 : Int64))))])) _
      refine XS.ifYes X0.here hx rfl (pc0 := 11) (pc' := 18) rfl (hb hby d5_11) rfl ((if0 _ _).trans (flt (hc : ¬ ((lcmpW (q1 + (-9223372036854775808 : Int64)) (q2 + (-9223372036854775808 : Int64))) < (0 : Int32)))).2.1) (by decide) (by decide) ?_
      show Steps p.tables e below (s₁.setTop (mkF m 18 #[.val (.long q1), .second, .val (.long q2), .second] [])) _
      refine XS.iconst X0.here hx rfl (hb hby d5_18) ?_
      exact kt
    obtain ⟨fs, hr, hrun, hended, hW, hsame⟩ := X0.leave (v := some (.int (0 : Int32))) (fun h => by rw [Bd.returns] at h; cases h) (hlocks := hlk)
    refine ⟨_, _, K3 _ ?_, hrun, hended, _, _, rfl, ?_, ⟨_, rfl⟩, hW, hsame.mono (by decide) (by decide)⟩
    · exact retN X0 hx (t := .boolean) Bd.returns (by simp) (hb hby d5_19) hr
    · show Qrm5 q1 q2 h0 n0 _ s₁.heap _
      rw [e0]
      exact ⟨_, rfl, Or.inr ⟨rfl, own_ult2 hc⟩, N0, rfl⟩
theorem ef_rm8 (m : MethodId) (x0 : Int64) (x1 : Int64) : entryFrame m #[(.long x0), (.long x1)] 4 = mkF m 0 #[.val (.long x0), .second, .val (.long x1), .second] [] := by first | (simp [entryFrame, mkF, argsToLocals, Value.category]; done) | rfl
def Qrm8 (q1 q2 : Int64) (h0 : Heap) (n0 : Nat) (v : Option Value) (h : Heap) (L : List Loc) : Prop := ∃ r : Int32, v = some (.int r) ∧ (r = -1 ∧ q1 < q2 ∨ r = 0 ∧ q1 = q2 ∨ r = 1 ∧ q2 < q1) ∧ Fr n0 L ∧ h = h0
set_option maxRecDepth 65536 in
set_option maxHeartbeats 40000000 in
theorem rm8 (l : Launch) (Z : State) (a0 : Array Value) (hw : ∀ d ∈ tables_1, d.before a0 Z = true) (ws : List Jvm.Cond) (q1 q2 : Int64) (h0 : Heap) (n0 : Nat) (Z0 : n0 ≤ h0.size)  :
    MetFree l (⟨"java/lang/Long", "compare", "(JJ)I"⟩ : MethodName) (head1 (Jvm.Cond.code (⟨"java/lang/Long", "compare", "(JJ)I"⟩ : MethodName) jdk_35_method_42_code 4 (some .int) :: ws) ({ frames := 0, cells := 0, slots := 0, locals := 0 } : Room)) (fun a U => a = #[(.long q1), (.long q2)] ∧ Z.Warmed39 U.vm ∧ U.heap = h0) (fun _ _ _ _ _ => True) (fun _ U o U' => ∃ v L, o = .returned v ∧ Qrm8 q1 q2 h0 n0 v U'.heap L ∧ FrameEnd U o U' L ({ frames := 0, cells := 0, slots := 0, locals := 0 } : Room).cells ({ frames := 0, cells := 0, slots := 0, locals := 0 } : Room).slots) := by
  refine MetFree.of_bodySF (plainFor_of_name pn_1) hisR ?_
  intro p e s m args below meth c s₁ Bd hml0 hP hK
  obtain ⟨rfl, hZ, hh⟩ := hP
  have hx := Bd.exec
  have hlk : meth.locks = false := BodyLoose.notSynchronized Bd
  have hby := Bd.bytes
  have hml : c.maxLocals = 4 := hml0
  have hown : s.vm.findClass "java/lang/Long" = some m.cls := findClass_of_methodNamed Bd.named
  have hnm := (name_of_methodNamed Bd.named Bd.method).1
  have X0 : Stand p l e ({ frames := 0, cells := 0, slots := 0, locals := 0 } : Room) s m #[(.long q1), (.long q2)] below meth c s₁ [] 0 0 := Stand.of_body Bd
  have e0 : s₁.heap = h0 := by rw [← hh, Bd.state]; rfl
  have N0 := Fr.nil n0
  have K0 : ∀ t, Steps p.tables e below (s₁.setTop (mkF m 0 #[.val (.long q1), .second, .val (.long q2), .second] [])) t → Steps p.tables e below (s₁.setTop (entryFrame m #[(.long q1), (.long q2)] 4)) t := fun t k => castTop (ef_rm8 m q1 q2) k
  have K1 : ∀ t, Steps p.tables e below (s₁.setTop (mkF m 3 #[.val (.long q1), .second, .val (.long q2), .second] [(.int (lcmpW q1 q2))])) t → Steps p.tables e below (s₁.setTop (entryFrame m #[(.long q1), (.long q2)] 4)) t := by
    intro t kt
    refine K0 t ?_
    show Steps p.tables e below (s₁.setTop (mkF m 0 #[.val (.long q1), .second, .val (.long q2), .second] [])) _
    refine XS.lloadN X0.here hx rfl (hb hby d8_0) rfl ?_
    show Steps p.tables e below (s₁.setTop (mkF m 1 #[.val (.long q1), .second, .val (.long q2), .second] [(.long q1)])) _
    refine XS.lloadN X0.here hx rfl (hb hby d8_1) rfl ?_
    show Steps p.tables e below (s₁.setTop (mkF m 2 #[.val (.long q1), .second, .val (.long q2), .second] [(.long q2), (.long q1)])) _
    refine XS.lcmp X0.here hx rfl (hb hby d8_2) rfl ?_
    exact kt
  by_cases hc : (lcmpW q1 q2) < (0 : Int32)
  · have K2 : ∀ t, Steps p.tables e below (s₁.setTop (mkF m 21 #[.val (.long q1), .second, .val (.long q2), .second] [(.int (-1 : Int32))])) t → Steps p.tables e below (s₁.setTop (entryFrame m #[(.long q1), (.long q2)] 4)) t := by
      intro t kt
      refine K1 t ?_
      show Steps p.tables e below (s₁.setTop (mkF m 3 #[.val (.long q1), .second, .val (.long q2), .second] [(.int (lcmpW q1 q2))])) _
      refine XS.ifNo X0.here hx rfl (hb hby d8_3) rfl ((if0 _ _).trans (tlt (hc : (lcmpW q1 q2) < (0 : Int32))).2.1) ?_
      show Steps p.tables e below (s₁.setTop (mkF m 6 #[.val (.long q1), .second, .val (.long q2), .second] [])) _
      refine XS.iconst X0.here hx rfl (hb hby d8_6) ?_
      show Steps p.tables e below (s₁.setTop (mkF m 7 #[.val (.long q1), .second, .val (.long q2), .second] [(.int (-1 : Int32))])) _
      refine XS.goto X0.here hx rfl (pc0 := 7) (pc' := 21) rfl (hb hby d8_7) (by decide) (by decide) ?_
      exact kt
    obtain ⟨fs, hr, hrun, hended, hW, hsame⟩ := X0.leave (v := some (.int (-1 : Int32))) (fun h => by rw [Bd.returns] at h; cases h) (hlocks := hlk)
    refine ⟨_, _, K2 _ ?_, hrun, hended, _, _, rfl, ?_, ⟨_, rfl⟩, hW, hsame.mono (by decide) (by decide)⟩
    · exact retI X0 hx Bd.returns (hb hby d8_21) hr
    · show Qrm8 q1 q2 h0 n0 _ s₁.heap _
      rw [e0]
      exact ⟨_, rfl, Or.inl ⟨rfl, (lw_lt _ _).mp hc⟩, N0, rfl⟩
  · have K3 : ∀ t, Steps p.tables e below (s₁.setTop (mkF m 13 #[.val (.long q1), .second, .val (.long q2), .second] [(.int (lcmpW q1 q2))])) t → Steps p.tables e below (s₁.setTop (entryFrame m #[(.long q1), (.long q2)] 4)) t := by
      intro t kt
      refine K1 t ?_
      show Steps p.tables e below (s₁.setTop (mkF m 3 #[.val (.long q1), .second, .val (.long q2), .second] [(.int (lcmpW q1 q2))])) _
      refine XS.ifYes X0.here hx rfl (pc0 := 3) (pc' := 10) rfl (hb hby d8_3) rfl ((if0 _ _).trans (flt (hc : ¬ ((lcmpW q1 q2) < (0 : Int32)))).2.1) (by decide) (by decide) ?_
      show Steps p.tables e below (s₁.setTop (mkF m 10 #[.val (.long q1), .second, .val (.long q2), .second] [])) _
      refine XS.lloadN X0.here hx rfl (hb hby d8_10) rfl ?_
      show Steps p.tables e below (s₁.setTop (mkF m 11 #[.val (.long q1), .second, .val (.long q2), .second] [(.long q1)])) _
      refine XS.lloadN X0.here hx rfl (hb hby d8_11) rfl ?_
      show Steps p.tables e below (s₁.setTop (mkF m 12 #[.val (.long q1), .second, .val (.long q2), .second] [(.long q2), (.long q1)])) _
      refine XS.lcmp X0.here hx rfl (hb hby d8_12) rfl ?_
      exact kt
    by_cases hd : (lcmpW q1 q2) = (0 : Int32)
    · have K4 : ∀ t, Steps p.tables e below (s₁.setTop (mkF m 21 #[.val (.long q1), .second, .val (.long q2), .second] [(.int (0 : Int32))])) t → Steps p.tables e below (s₁.setTop (entryFrame m #[(.long q1), (.long q2)] 4)) t := by
        intro t kt
        refine K3 t ?_
        show Steps p.tables e below (s₁.setTop (mkF m 13 #[.val (.long q1), .second, .val (.long q2), .second] [(.int (lcmpW q1 q2))])) _
        refine XS.ifNo X0.here hx rfl (hb hby d8_13) rfl ((if0 _ _).trans (teq (hd : (lcmpW q1 q2) = (0 : Int32))).2) ?_
        show Steps p.tables e below (s₁.setTop (mkF m 16 #[.val (.long q1), .second, .val (.long q2), .second] [])) _
        refine XS.iconst X0.here hx rfl (hb hby d8_16) ?_
        show Steps p.tables e below (s₁.setTop (mkF m 17 #[.val (.long q1), .second, .val (.long q2), .second] [(.int (0 : Int32))])) _
        refine XS.goto X0.here hx rfl (pc0 := 17) (pc' := 21) rfl (hb hby d8_17) (by decide) (by decide) ?_
        exact kt
      obtain ⟨fs, hr, hrun, hended, hW, hsame⟩ := X0.leave (v := some (.int (0 : Int32))) (fun h => by rw [Bd.returns] at h; cases h) (hlocks := hlk)
      refine ⟨_, _, K4 _ ?_, hrun, hended, _, _, rfl, ?_, ⟨_, rfl⟩, hW, hsame.mono (by decide) (by decide)⟩
      · exact retI X0 hx Bd.returns (hb hby d8_21) hr
      · show Qrm8 q1 q2 h0 n0 _ s₁.heap _
        rw [e0]
        exact ⟨_, rfl, Or.inr (Or.inl ⟨rfl, (lw_eq _ _).mp hd⟩), N0, rfl⟩
    · have K5 : ∀ t, Steps p.tables e below (s₁.setTop (mkF m 21 #[.val (.long q1), .second, .val (.long q2), .second] [(.int (1 : Int32))])) t → Steps p.tables e below (s₁.setTop (entryFrame m #[(.long q1), (.long q2)] 4)) t := by
        intro t kt
        refine K3 t ?_
        show Steps p.tables e below (s₁.setTop (mkF m 13 #[.val (.long q1), .second, .val (.long q2), .second] [(.int (lcmpW q1 q2))])) _
        refine XS.ifYes X0.here hx rfl (pc0 := 13) (pc' := 20) rfl (hb hby d8_13) rfl ((if0 _ _).trans (feq (hd : ¬ ((lcmpW q1 q2) = (0 : Int32)))).2) (by decide) (by decide) ?_
        show Steps p.tables e below (s₁.setTop (mkF m 20 #[.val (.long q1), .second, .val (.long q2), .second] [])) _
        refine XS.iconst X0.here hx rfl (hb hby d8_20) ?_
        exact kt
      obtain ⟨fs, hr, hrun, hended, hW, hsame⟩ := X0.leave (v := some (.int (1 : Int32))) (fun h => by rw [Bd.returns] at h; cases h) (hlocks := hlk)
      refine ⟨_, _, K5 _ ?_, hrun, hended, _, _, rfl, ?_, ⟨_, rfl⟩, hW, hsame.mono (by decide) (by decide)⟩
      · exact retI X0 hx Bd.returns (hb hby d8_21) hr
      · show Qrm8 q1 q2 h0 n0 _ s₁.heap _
        rw [e0]
        exact ⟨_, rfl, Or.inr (Or.inr ⟨rfl, own_cmpgt hc hd⟩), N0, rfl⟩
theorem ef_rm7 (m : MethodId) (x0 : Int64) (x1 : Int64) : entryFrame m #[(.long x0), (.long x1)] 4 = mkF m 0 #[.val (.long x0), .second, .val (.long x1), .second] [] := by first | (simp [entryFrame, mkF, argsToLocals, Value.category]; done) | rfl
def Qrm7 (q1 q2 : Int64) (h0 : Heap) (n0 : Nat) (v : Option Value) (h : Heap) (L : List Loc) : Prop := ∃ r : Int32, v = some (.int r) ∧ (r = -1 ∧ UL q1 < UL q2 ∨ r = 0 ∧ UL q1 = UL q2 ∨ r = 1 ∧ UL q2 < UL q1) ∧ Fr n0 L ∧ h = h0
set_option maxRecDepth 65536 in
set_option maxHeartbeats 40000000 in
theorem rm7 (l : Launch) (Z : State) (a0 : Array Value) (hw : ∀ d ∈ tables_1, d.before a0 Z = true) (ws : List Jvm.Cond) (q1 q2 : Int64) (h0 : Heap) (n0 : Nat) (Z0 : n0 ≤ h0.size)  :
    MetFree l (⟨"java/lang/Long", "compareUnsigned", "(JJ)I"⟩ : MethodName) (head1 (Jvm.Cond.code (⟨"java/lang/Long", "compareUnsigned", "(JJ)I"⟩ : MethodName) jdk_35_method_43_code 4 (some .int) :: ws) ({ frames := 1, cells := 0, slots := 0, locals := 15 } : Room)) (fun a U => a = #[(.long q1), (.long q2)] ∧ Z.Warmed39 U.vm ∧ U.heap = h0) (fun _ _ _ _ _ => True) (fun _ U o U' => ∃ v L, o = .returned v ∧ Qrm7 q1 q2 h0 n0 v U'.heap L ∧ FrameEnd U o U' L ({ frames := 1, cells := 0, slots := 0, locals := 15 } : Room).cells ({ frames := 1, cells := 0, slots := 0, locals := 15 } : Room).slots) := by
  refine MetFree.of_bodySF (plainFor_of_name pn_1) hisR ?_
  intro p e s m args below meth c s₁ Bd hml0 hP hK
  obtain ⟨rfl, hZ, hh⟩ := hP
  have hx := Bd.exec
  have hlk : meth.locks = false := BodyLoose.notSynchronized Bd
  have hby := Bd.bytes
  have hml : c.maxLocals = 4 := hml0
  have hown : s.vm.findClass "java/lang/Long" = some m.cls := findClass_of_methodNamed Bd.named
  have hnm := (name_of_methodNamed Bd.named Bd.method).1
  have X0 : Stand p l e ({ frames := 1, cells := 0, slots := 0, locals := 15 } : Room) s m #[(.long q1), (.long q2)] below meth c s₁ [] 0 0 := Stand.of_body Bd
  have e0 : s₁.heap = h0 := by rw [← hh, Bd.state]; rfl
  have N0 := Fr.nil n0
  have K0 : ∀ t, Steps p.tables e below (s₁.setTop (mkF m 0 #[.val (.long q1), .second, .val (.long q2), .second] [])) t → Steps p.tables e below (s₁.setTop (entryFrame m #[(.long q1), (.long q2)] 4)) t := fun t k => castTop (ef_rm7 m q1 q2) k
  have K1 : ∀ t, Steps p.tables e below (s₁.setTop (mkF m 10 #[.val (.long q1), .second, .val (.long q2), .second] [(.long (q2 + (-9223372036854775808 : Int64))), (.long (q1 + (-9223372036854775808 : Int64)))])) t → Steps p.tables e below (s₁.setTop (entryFrame m #[(.long q1), (.long q2)] 4)) t := by
    intro t kt
    refine K0 t ?_
    show Steps p.tables e below (s₁.setTop (mkF m 0 #[.val (.long q1), .second, .val (.long q2), .second] [])) _
    refine XS.lloadN X0.here hx rfl (hb hby d7_0) rfl ?_
    show Steps p.tables e below (s₁.setTop (mkF m 1 #[.val (.long q1), .second, .val (.long q2), .second] [(.long q1)])) _
    refine X0.ldc2Long hx hown (mvT hZ (hw _ (List.mem_of_getElem? (i := 29) rfl))) (g := (mkF m 1 #[.val (.long q1), .second, .val (.long q2), .second] [(.long q1)])) rfl (hb hby d7_1) _ ?_
    show Steps p.tables e below (s₁.setTop (mkF m 4 #[.val (.long q1), .second, .val (.long q2), .second] [(.long (-9223372036854775808 : Int64)), (.long q1)])) _
    refine XS.ladd X0.here hx rfl (hb hby d7_4) rfl ?_
    show Steps p.tables e below (s₁.setTop (mkF m 5 #[.val (.long q1), .second, .val (.long q2), .second] [(.long (q1 + (-9223372036854775808 : Int64)))])) _
    refine XS.lloadN X0.here hx rfl (hb hby d7_5) rfl ?_
    show Steps p.tables e below (s₁.setTop (mkF m 6 #[.val (.long q1), .second, .val (.long q2), .second] [(.long q2), (.long (q1 + (-9223372036854775808 : Int64)))])) _
    refine X0.ldc2Long hx hown (mvT hZ (hw _ (List.mem_of_getElem? (i := 29) rfl))) (g := (mkF m 6 #[.val (.long q1), .second, .val (.long q2), .second] [(.long q2), (.long (q1 + (-9223372036854775808 : Int64)))])) rfl (hb hby d7_6) _ ?_
    show Steps p.tables e below (s₁.setTop (mkF m 9 #[.val (.long q1), .second, .val (.long q2), .second] [(.long (-9223372036854775808 : Int64)), (.long q2), (.long (q1 + (-9223372036854775808 : Int64)))])) _
    refine XS.ladd X0.here hx rfl (hb hby d7_9) rfl ?_
    exact kt
  obtain ⟨_, _, ⟨T2, L2, k2, n2⟩, -, X2, ⟨Lc2, hQ2, l2, y2, z2⟩, st2⟩ := Jvm.LawKit.callS X0 hx (y := (⟨"java/lang/Long", "compare", "(JJ)I"⟩ : MethodName)) hown (mvT hZ (hw _ (List.mem_of_getElem? (i := 30) rfl))) (mvT hZ (hw _ (List.mem_of_getElem? (i := 31) rfl))) (mvT hZ (hw _ (List.mem_of_getElem? (i := 27) rfl))) (mvT hZ (hw _ (List.mem_of_getElem? (i := 32) rfl))) (by decide) (backOf (W := 0) (rm8 l Z a0 hw [] (q1 + (-9223372036854775808 : Int64)) (q2 + (-9223372036854775808 : Int64)) h0 n0 Z0) hZ (hw _ (List.mem_of_getElem? (i := 32) rfl)) (hw _ (List.mem_of_getElem? (i := 27) rfl)) (by decide) (by decide)) (g := (mkF m 10 #[.val (.long q1), .second, .val (.long q2), .second] [(.long (q2 + (-9223372036854775808 : Int64))), (.long (q1 + (-9223372036854775808 : Int64)))])) rfl (by rw [hml]; rfl) (argsL := [(.long (q1 + (-9223372036854775808 : Int64))), (.long (q2 + (-9223372036854775808 : Int64)))]) (rest := []) (lenOf pd_0 rfl) rfl (by show 2 * 0 + _ ≤ _; exact Nat.le_of_eq rfl) (hb hby d7_10) (fun _ _ => ⟨rfl, e0, (by decide : 0 + 0 ≤ _), (by decide : 0 + 0 ≤ _)⟩)
  dsimp only [Pt.U, Pt.locs, Pt.cells, Pt.slots] at X2 l2 y2 z2 st2 hQ2
  subst l2 y2 z2
  obtain ⟨r2, rfl, hr2, Nq2, e2⟩ := hQ2
  have N2 := Fr.app N0 Nq2
  have K3 : ∀ t, Steps p.tables e below (T2.setTop (mkF m 13 #[.val (.long q1), .second, .val (.long q2), .second] [(.int r2)])) t → Steps p.tables e below (s₁.setTop (entryFrame m #[(.long q1), (.long q2)] 4)) t := fun t kt => K1 t (st2 t kt)
  obtain ⟨fs, hr, hrun, hended, hW, hsame⟩ := X2.leave (v := some (.int r2)) (fun h => by rw [Bd.returns] at h; cases h) (hlocks := hlk)
  refine ⟨_, _, K3 _ ?_, hrun, hended, _, _, rfl, ?_, ⟨_, rfl⟩, hW, hsame.mono (by decide) (by decide)⟩
  · exact retI X2 hx Bd.returns (hb hby d7_13) hr
  · show Qrm7 q1 q2 h0 n0 _ T2.heap _
    rw [e2]
    exact ⟨_, rfl, own_cu hr2, N2, rfl⟩
theorem ef_rm9 (m : MethodId) (x0 : Int64) (x1 : Int64) (x2 : Int64) : entryFrame m #[(.long x0), (.long x1), (.long x2)] 11 = mkF m 0 #[.val (.long x0), .second, .val (.long x1), .second, .val (.long x2), .second, .unset, .unset, .unset, .unset, .unset] [] := by first | (simp [entryFrame, mkF, argsToLocals, Value.category]; done) | rfl
def Qrm9 (q1 q2 q3 : Int64) (h0 : Heap) (n0 : Nat) (v : Option Value) (h : Heap) (L : List Loc) : Prop := ∃ r : Int64, v = some (.long r) ∧ UL r = (q1.toInt * 18446744073709551616 + UL q2) / q3.toInt ∧ Fr n0 L ∧ h = h0
set_option maxRecDepth 65536 in
set_option maxHeartbeats 40000000 in
theorem rm9 (l : Launch) (Z : State) (a0 : Array Value) (hw : ∀ d ∈ tables_1, d.before a0 Z = true) (ws : List Jvm.Cond) (q1 q2 q3 : Int64) (h0 : Heap) (n0 : Nat) (Z0 : n0 ≤ h0.size) (p1 : 0 ≤ q1.toInt) (p2 : q1.toInt < q3.toInt) :
    MetFree l (⟨"com/example/limtok/limtok/ExactMath", "divideWide", "(JJJ)J"⟩ : MethodName) (head1 (Jvm.Cond.code (⟨"com/example/limtok/limtok/ExactMath", "divideWide", "(JJJ)J"⟩ : MethodName) prog_23_method_4_code 11 (some .long) :: ws) ({ frames := 2, cells := 0, slots := 0, locals := 30 } : Room)) (fun a U => a = #[(.long q1), (.long q2), (.long q3)] ∧ Z.Warmed39 U.vm ∧ U.heap = h0) (fun _ _ _ _ _ => True) (fun _ U o U' => ∃ v L, o = .returned v ∧ Qrm9 q1 q2 q3 h0 n0 v U'.heap L ∧ FrameEnd U o U' L ({ frames := 2, cells := 0, slots := 0, locals := 30 } : Room).cells ({ frames := 2, cells := 0, slots := 0, locals := 30 } : Room).slots) := by
  refine MetFree.of_bodySF (plainFor_of_name pn_2) hisR ?_
  intro p e s m args below meth c s₁ Bd hml0 hP hK
  obtain ⟨rfl, hZ, hh⟩ := hP
  have hx := Bd.exec
  have hlk : meth.locks = false := BodyLoose.notSynchronized Bd
  have hby := Bd.bytes
  have hml : c.maxLocals = 11 := hml0
  have hown : s.vm.findClass "com/example/limtok/limtok/ExactMath" = some m.cls := findClass_of_methodNamed Bd.named
  have hnm := (name_of_methodNamed Bd.named Bd.method).1
  have X0 : Stand p l e ({ frames := 2, cells := 0, slots := 0, locals := 30 } : Room) s m #[(.long q1), (.long q2), (.long q3)] below meth c s₁ [] 0 0 := Stand.of_body Bd
  have e0 : s₁.heap = h0 := by rw [← hh, Bd.state]; rfl
  have N0 := Fr.nil n0
  have K0 : ∀ t, Steps p.tables e below (s₁.setTop (mkF m 0 #[.val (.long q1), .second, .val (.long q2), .second, .val (.long q3), .second, .unset, .unset, .unset, .unset, .unset] [])) t → Steps p.tables e below (s₁.setTop (entryFrame m #[(.long q1), (.long q2), (.long q3)] 11)) t := fun t k => castTop (ef_rm9 m q1 q2 q3) k
  have K1 : ∀ t, Steps p.tables e below (s₁.setTop (mkF m 10 #[.val (.long q1), .second, .val (.long q2), .second, .val (.long q3), .second, .val (.long q1), .second, .val (.long (0 : Int64)), .second, .val (.int (63 : Int32))] [])) t → Steps p.tables e below (s₁.setTop (entryFrame m #[(.long q1), (.long q2), (.long q3)] 11)) t := by
    intro t kt
    refine K0 t ?_
    show Steps p.tables e below (s₁.setTop (mkF m 0 #[.val (.long q1), .second, .val (.long q2), .second, .val (.long q3), .second, .unset, .unset, .unset, .unset, .unset] [])) _
    refine XS.lloadN X0.here hx rfl (hb hby d9_0) rfl ?_
    show Steps p.tables e below (s₁.setTop (mkF m 1 #[.val (.long q1), .second, .val (.long q2), .second, .val (.long q3), .second, .unset, .unset, .unset, .unset, .unset] [(.long q1)])) _
    refine XS.lstore X0.here hx rfl (hb hby d9_1) rfl (l' := #[.val (.long q1), .second, .val (.long q2), .second, .val (.long q3), .second, .val (.long q1), .second, .unset, .unset, .unset]) rfl ?_
    show Steps p.tables e below (s₁.setTop (mkF m 3 #[.val (.long q1), .second, .val (.long q2), .second, .val (.long q3), .second, .val (.long q1), .second, .unset, .unset, .unset] [])) _
    refine XS.lconst X0.here hx rfl (hb hby d9_3) ?_
    show Steps p.tables e below (s₁.setTop (mkF m 4 #[.val (.long q1), .second, .val (.long q2), .second, .val (.long q3), .second, .val (.long q1), .second, .unset, .unset, .unset] [(.long (0 : Int64))])) _
    refine XS.lstore X0.here hx rfl (hb hby d9_4) rfl (l' := #[.val (.long q1), .second, .val (.long q2), .second, .val (.long q3), .second, .val (.long q1), .second, .val (.long (0 : Int64)), .second, .unset]) rfl ?_
    show Steps p.tables e below (s₁.setTop (mkF m 6 #[.val (.long q1), .second, .val (.long q2), .second, .val (.long q3), .second, .val (.long q1), .second, .val (.long (0 : Int64)), .second, .unset] [])) _
    refine XS.bipush X0.here hx rfl (hb hby d9_6) ?_
    show Steps p.tables e below (s₁.setTop (mkF m 8 #[.val (.long q1), .second, .val (.long q2), .second, .val (.long q3), .second, .val (.long q1), .second, .val (.long (0 : Int64)), .second, .unset] [(.int (63 : Int32))])) _
    refine XS.istore X0.here hx rfl (hb hby d9_8) rfl (l' := #[.val (.long q1), .second, .val (.long q2), .second, .val (.long q3), .second, .val (.long q1), .second, .val (.long (0 : Int64)), .second, .val (.int (63 : Int32))]) rfl ?_
    exact kt
  have loop : ∀ (k : Nat) (r q : Int64) (i : Int32) (T : State) (lc : List Loc), k ≤ 64 → i.toInt = (k : Int) - 1 → DInv q1 q2 q3 k r q → Stand p l e ({ frames := 2, cells := 0, slots := 0, locals := 30 } : Room) s m #[(.long q1), (.long q2), (.long q3)] below meth c T lc 0 0 → T.heap = h0 → Fr n0 lc → ∃ (T' : State) (lc' : List Loc) (r' q' : Int64) (i' : Int32), Stand p l e ({ frames := 2, cells := 0, slots := 0, locals := 30 } : Room) s m #[(.long q1), (.long q2), (.long q3)] below meth c T' lc' 0 0 ∧ T'.heap = h0 ∧ Fr n0 lc' ∧ DInv q1 q2 q3 0 r' q' ∧ ∀ t, Steps p.tables e below (T'.setTop (mkF m 63 #[.val (.long q1), .second, .val (.long q2), .second, .val (.long q3), .second, .val (.long r'), .second, .val (.long q'), .second, .val (.int i')] [])) t → Steps p.tables e below (T.setTop (mkF m 10 #[.val (.long q1), .second, .val (.long q2), .second, .val (.long q3), .second, .val (.long r), .second, .val (.long q), .second, .val (.int i)] [])) t := by
    intro k
    induction k with
    | zero =>
      intro r q i T lc hk hi hI X eT N
      have K2 : ∀ t, Steps p.tables e below (T.setTop (mkF m 10 #[.val (.long q1), .second, .val (.long q2), .second, .val (.long q3), .second, .val (.long r), .second, .val (.long q), .second, .val (.int i)] [])) t → Steps p.tables e below (T.setTop (mkF m 10 #[.val (.long q1), .second, .val (.long q2), .second, .val (.long q3), .second, .val (.long r), .second, .val (.long q), .second, .val (.int i)] [])) t := fun t kt => kt
      have K3 : ∀ t, Steps p.tables e below (T.setTop (mkF m 63 #[.val (.long q1), .second, .val (.long q2), .second, .val (.long q3), .second, .val (.long r), .second, .val (.long q), .second, .val (.int i)] [])) t → Steps p.tables e below (T.setTop (mkF m 10 #[.val (.long q1), .second, .val (.long q2), .second, .val (.long q3), .second, .val (.long r), .second, .val (.long q), .second, .val (.int i)] [])) t := by
        intro t kt
        refine K2 t ?_
        show Steps p.tables e below (T.setTop (mkF m 10 #[.val (.long q1), .second, .val (.long q2), .second, .val (.long q3), .second, .val (.long r), .second, .val (.long q), .second, .val (.int i)] [])) _
        refine XS.iload X.here hx rfl (hb hby d9_10) rfl ?_
        show Steps p.tables e below (T.setTop (mkF m 12 #[.val (.long q1), .second, .val (.long q2), .second, .val (.long q3), .second, .val (.long r), .second, .val (.long q), .second, .val (.int i)] [(.int i)])) _
        refine XS.ifYes X.here hx rfl (pc0 := 12) (pc' := 63) rfl (hb hby d9_12) rfl ((if0 _ _).trans (tlt (own_neg hi : i < (0 : Int32))).1) (by decide) (by decide) ?_
        exact kt
      exact ⟨T, lc, r, q, i, X, eT, N, hI, K3⟩
    | succ k ih =>
      intro r q i T lc hk hi hI X eT N
      have K4 : ∀ t, Steps p.tables e below (T.setTop (mkF m 10 #[.val (.long q1), .second, .val (.long q2), .second, .val (.long q3), .second, .val (.long r), .second, .val (.long q), .second, .val (.int i)] [])) t → Steps p.tables e below (T.setTop (mkF m 10 #[.val (.long q1), .second, .val (.long q2), .second, .val (.long q3), .second, .val (.long r), .second, .val (.long q), .second, .val (.int i)] [])) t := fun t kt => kt
      have K5 : ∀ t, Steps p.tables e below (T.setTop (mkF m 26 #[.val (.long q1), .second, .val (.long q2), .second, .val (.long q3), .second, .val (.long r), .second, .val (.long q), .second, .val (.int i)] [(.long ((r <<< ((1 : Int32) &&& 0x3f).toInt64) ||| (((q2.toUInt64 >>> (i &&& 0x3f).toInt64.toUInt64).toInt64) &&& (1 : Int64))))])) t → Steps p.tables e below (T.setTop (mkF m 10 #[.val (.long q1), .second, .val (.long q2), .second, .val (.long q3), .second, .val (.long r), .second, .val (.long q), .second, .val (.int i)] [])) t := by
        intro t kt
        refine K4 t ?_
        show Steps p.tables e below (T.setTop (mkF m 10 #[.val (.long q1), .second, .val (.long q2), .second, .val (.long q3), .second, .val (.long r), .second, .val (.long q), .second, .val (.int i)] [])) _
        refine XS.iload X.here hx rfl (hb hby d9_10) rfl ?_
        show Steps p.tables e below (T.setTop (mkF m 12 #[.val (.long q1), .second, .val (.long q2), .second, .val (.long q3), .second, .val (.long r), .second, .val (.long q), .second, .val (.int i)] [(.int i)])) _
        refine XS.ifNo X.here hx rfl (hb hby d9_12) rfl ((if0 _ _).trans (flt (own_nonneg hi : ¬ (i < (0 : Int32)))).1) ?_
        show Steps p.tables e below (T.setTop (mkF m 15 #[.val (.long q1), .second, .val (.long q2), .second, .val (.long q3), .second, .val (.long r), .second, .val (.long q), .second, .val (.int i)] [])) _
        refine XS.lload X.here hx rfl (hb hby d9_15) rfl ?_
        show Steps p.tables e below (T.setTop (mkF m 17 #[.val (.long q1), .second, .val (.long q2), .second, .val (.long q3), .second, .val (.long r), .second, .val (.long q), .second, .val (.int i)] [(.long r)])) _
        refine XS.iconst X.here hx rfl (hb hby d9_17) ?_
        show Steps p.tables e below (T.setTop (mkF m 18 #[.val (.long q1), .second, .val (.long q2), .second, .val (.long q3), .second, .val (.long r), .second, .val (.long q), .second, .val (.int i)] [(.int (1 : Int32)), (.long r)])) _
        refine XS.lshl X.here hx rfl (hb hby d9_18) rfl ?_
        show Steps p.tables e below (T.setTop (mkF m 19 #[.val (.long q1), .second, .val (.long q2), .second, .val (.long q3), .second, .val (.long r), .second, .val (.long q), .second, .val (.int i)] [(.long (r <<< ((1 : Int32) &&& 0x3f).toInt64))])) _
        refine XS.lloadN X.here hx rfl (hb hby d9_19) rfl ?_
        show Steps p.tables e below (T.setTop (mkF m 20 #[.val (.long q1), .second, .val (.long q2), .second, .val (.long q3), .second, .val (.long r), .second, .val (.long q), .second, .val (.int i)] [(.long q2), (.long (r <<< ((1 : Int32) &&& 0x3f).toInt64))])) _
        refine XS.iload X.here hx rfl (hb hby d9_20) rfl ?_
        show Steps p.tables e below (T.setTop (mkF m 22 #[.val (.long q1), .second, .val (.long q2), .second, .val (.long q3), .second, .val (.long r), .second, .val (.long q), .second, .val (.int i)] [(.int i), (.long q2), (.long (r <<< ((1 : Int32) &&& 0x3f).toInt64))])) _
        refine XS.lushr X.here hx rfl (hb hby d9_22) rfl ?_
        show Steps p.tables e below (T.setTop (mkF m 23 #[.val (.long q1), .second, .val (.long q2), .second, .val (.long q3), .second, .val (.long r), .second, .val (.long q), .second, .val (.int i)] [(.long ((q2.toUInt64 >>> (i &&& 0x3f).toInt64.toUInt64).toInt64)), (.long (r <<< ((1 : Int32) &&& 0x3f).toInt64))])) _
        refine XS.lconst X.here hx rfl (hb hby d9_23) ?_
        show Steps p.tables e below (T.setTop (mkF m 24 #[.val (.long q1), .second, .val (.long q2), .second, .val (.long q3), .second, .val (.long r), .second, .val (.long q), .second, .val (.int i)] [(.long (1 : Int64)), (.long ((q2.toUInt64 >>> (i &&& 0x3f).toInt64.toUInt64).toInt64)), (.long (r <<< ((1 : Int32) &&& 0x3f).toInt64))])) _
        refine XS.land X.here hx rfl (hb hby d9_24) rfl ?_
        show Steps p.tables e below (T.setTop (mkF m 25 #[.val (.long q1), .second, .val (.long q2), .second, .val (.long q3), .second, .val (.long r), .second, .val (.long q), .second, .val (.int i)] [(.long (((q2.toUInt64 >>> (i &&& 0x3f).toInt64.toUInt64).toInt64) &&& (1 : Int64))), (.long (r <<< ((1 : Int32) &&& 0x3f).toInt64))])) _
        refine XS.lor X.here hx rfl (hb hby d9_25) rfl ?_
        exact kt
      obtain ⟨r2, hr2⟩ : ∃ z : Int64, z = ((r <<< ((1 : Int32) &&& 0x3f).toInt64) ||| (((q2.toUInt64 >>> (i &&& 0x3f).toInt64.toUInt64).toInt64) &&& (1 : Int64))) := ⟨_, rfl⟩
      have K6 : ∀ t, Steps p.tables e below (T.setTop (mkF m 26 #[.val (.long q1), .second, .val (.long q2), .second, .val (.long q3), .second, .val (.long r), .second, .val (.long q), .second, .val (.int i)] [(.long r2)])) t → Steps p.tables e below (T.setTop (mkF m 10 #[.val (.long q1), .second, .val (.long q2), .second, .val (.long q3), .second, .val (.long r), .second, .val (.long q), .second, .val (.int i)] [])) t := by
        rw [hr2]; exact K5
      have K7 : ∀ t, Steps p.tables e below (T.setTop (mkF m 32 #[.val (.long q1), .second, .val (.long q2), .second, .val (.long q3), .second, .val (.long r2), .second, .val (.long q), .second, .val (.int i)] [(.long (q <<< ((1 : Int32) &&& 0x3f).toInt64))])) t → Steps p.tables e below (T.setTop (mkF m 10 #[.val (.long q1), .second, .val (.long q2), .second, .val (.long q3), .second, .val (.long r), .second, .val (.long q), .second, .val (.int i)] [])) t := by
        intro t kt
        refine K6 t ?_
        show Steps p.tables e below (T.setTop (mkF m 26 #[.val (.long q1), .second, .val (.long q2), .second, .val (.long q3), .second, .val (.long r), .second, .val (.long q), .second, .val (.int i)] [(.long r2)])) _
        refine XS.lstore X.here hx rfl (hb hby d9_26) rfl (l' := #[.val (.long q1), .second, .val (.long q2), .second, .val (.long q3), .second, .val (.long r2), .second, .val (.long q), .second, .val (.int i)]) rfl ?_
        show Steps p.tables e below (T.setTop (mkF m 28 #[.val (.long q1), .second, .val (.long q2), .second, .val (.long q3), .second, .val (.long r2), .second, .val (.long q), .second, .val (.int i)] [])) _
        refine XS.lload X.here hx rfl (hb hby d9_28) rfl ?_
        show Steps p.tables e below (T.setTop (mkF m 30 #[.val (.long q1), .second, .val (.long q2), .second, .val (.long q3), .second, .val (.long r2), .second, .val (.long q), .second, .val (.int i)] [(.long q)])) _
        refine XS.iconst X.here hx rfl (hb hby d9_30) ?_
        show Steps p.tables e below (T.setTop (mkF m 31 #[.val (.long q1), .second, .val (.long q2), .second, .val (.long q3), .second, .val (.long r2), .second, .val (.long q), .second, .val (.int i)] [(.int (1 : Int32)), (.long q)])) _
        refine XS.lshl X.here hx rfl (hb hby d9_31) rfl ?_
        exact kt
      obtain ⟨qa, hqa⟩ : ∃ z : Int64, z = (q <<< ((1 : Int32) &&& 0x3f).toInt64) := ⟨_, rfl⟩
      have K8 : ∀ t, Steps p.tables e below (T.setTop (mkF m 32 #[.val (.long q1), .second, .val (.long q2), .second, .val (.long q3), .second, .val (.long r2), .second, .val (.long q), .second, .val (.int i)] [(.long qa)])) t → Steps p.tables e below (T.setTop (mkF m 10 #[.val (.long q1), .second, .val (.long q2), .second, .val (.long q3), .second, .val (.long r), .second, .val (.long q), .second, .val (.int i)] [])) t := by
        rw [hqa]; exact K7
      have K9 : ∀ t, Steps p.tables e below (T.setTop (mkF m 38 #[.val (.long q1), .second, .val (.long q2), .second, .val (.long q3), .second, .val (.long r2), .second, .val (.long qa), .second, .val (.int i)] [(.long q3), (.long r2)])) t → Steps p.tables e below (T.setTop (mkF m 10 #[.val (.long q1), .second, .val (.long q2), .second, .val (.long q3), .second, .val (.long r), .second, .val (.long q), .second, .val (.int i)] [])) t := by
        intro t kt
        refine K8 t ?_
        show Steps p.tables e below (T.setTop (mkF m 32 #[.val (.long q1), .second, .val (.long q2), .second, .val (.long q3), .second, .val (.long r2), .second, .val (.long q), .second, .val (.int i)] [(.long qa)])) _
        refine XS.lstore X.here hx rfl (hb hby d9_32) rfl (l' := #[.val (.long q1), .second, .val (.long q2), .second, .val (.long q3), .second, .val (.long r2), .second, .val (.long qa), .second, .val (.int i)]) rfl ?_
        show Steps p.tables e below (T.setTop (mkF m 34 #[.val (.long q1), .second, .val (.long q2), .second, .val (.long q3), .second, .val (.long r2), .second, .val (.long qa), .second, .val (.int i)] [])) _
        refine XS.lload X.here hx rfl (hb hby d9_34) rfl ?_
        show Steps p.tables e below (T.setTop (mkF m 36 #[.val (.long q1), .second, .val (.long q2), .second, .val (.long q3), .second, .val (.long r2), .second, .val (.long qa), .second, .val (.int i)] [(.long r2)])) _
        refine XS.lload X.here hx rfl (hb hby d9_36) rfl ?_
        exact kt
      obtain ⟨_, _, ⟨T10, L10, k10, n10⟩, -, X10, ⟨Lc10, hQ10, l10, y10, z10⟩, st10⟩ := Jvm.LawKit.callS X hx (y := (⟨"java/lang/Long", "compareUnsigned", "(JJ)I"⟩ : MethodName)) hown (mvT hZ (hw _ (List.mem_of_getElem? (i := 25) rfl))) (mvT hZ (hw _ (List.mem_of_getElem? (i := 26) rfl))) (mvT hZ (hw _ (List.mem_of_getElem? (i := 27) rfl))) (mvT hZ (hw _ (List.mem_of_getElem? (i := 28) rfl))) (by decide) (backOf (W := 0) (rm7 l Z a0 hw [] r2 q3 h0 n0 Z0) hZ (hw _ (List.mem_of_getElem? (i := 28) rfl)) (hw _ (List.mem_of_getElem? (i := 27) rfl)) (by decide) (by decide)) (g := (mkF m 38 #[.val (.long q1), .second, .val (.long q2), .second, .val (.long q3), .second, .val (.long r2), .second, .val (.long qa), .second, .val (.int i)] [(.long q3), (.long r2)])) rfl (by rw [hml]; rfl) (argsL := [(.long r2), (.long q3)]) (rest := []) (lenOf pd_0 rfl) rfl (by show 2 * 0 + _ ≤ _; exact Nat.le_of_eq rfl) (hb hby d9_38) (fun _ _ => ⟨rfl, eT, (by decide : 0 + 0 ≤ _), (by decide : 0 + 0 ≤ _)⟩)
      dsimp only [Pt.U, Pt.locs, Pt.cells, Pt.slots] at X10 l10 y10 z10 st10 hQ10
      subst l10 y10 z10
      obtain ⟨c10, rfl, hr10, Nq10, e10⟩ := hQ10
      have N10 := Fr.app N Nq10
      have K11 : ∀ t, Steps p.tables e below (T10.setTop (mkF m 41 #[.val (.long q1), .second, .val (.long q2), .second, .val (.long q3), .second, .val (.long r2), .second, .val (.long qa), .second, .val (.int i)] [(.int c10)])) t → Steps p.tables e below (T.setTop (mkF m 10 #[.val (.long q1), .second, .val (.long q2), .second, .val (.long q3), .second, .val (.long r), .second, .val (.long q), .second, .val (.int i)] [])) t := fun t kt => K9 t (st10 t kt)
      have hcu := own_cul hr10
      by_cases hc : c10 < (0 : Int32)
      · have K12 : ∀ t, Steps p.tables e below (T10.setTop (mkF m 10 #[.val (.long q1), .second, .val (.long q2), .second, .val (.long q3), .second, .val (.long r2), .second, .val (.long qa), .second, .val (.int (i + (-1 : Int32)))] [])) t → Steps p.tables e below (T.setTop (mkF m 10 #[.val (.long q1), .second, .val (.long q2), .second, .val (.long q3), .second, .val (.long r), .second, .val (.long q), .second, .val (.int i)] [])) t := by
          intro t kt
          refine K11 t ?_
          show Steps p.tables e below (T10.setTop (mkF m 41 #[.val (.long q1), .second, .val (.long q2), .second, .val (.long q3), .second, .val (.long r2), .second, .val (.long qa), .second, .val (.int i)] [(.int c10)])) _
          refine XS.ifYes X10.here hx rfl (pc0 := 41) (pc' := 57) rfl (hb hby d9_41) rfl ((if0 _ _).trans (tlt (hc : c10 < (0 : Int32))).1) (by decide) (by decide) ?_
          show Steps p.tables e below (T10.setTop (mkF m 57 #[.val (.long q1), .second, .val (.long q2), .second, .val (.long q3), .second, .val (.long r2), .second, .val (.long qa), .second, .val (.int i)] [])) _
          refine XS.iinc X10.here hx rfl (hb hby d9_57) rfl (l' := #[.val (.long q1), .second, .val (.long q2), .second, .val (.long q3), .second, .val (.long r2), .second, .val (.long qa), .second, .val (.int (i + (-1 : Int32)))]) rfl ?_
          show Steps p.tables e below (T10.setTop (mkF m 60 #[.val (.long q1), .second, .val (.long q2), .second, .val (.long q3), .second, .val (.long r2), .second, .val (.long qa), .second, .val (.int (i + (-1 : Int32)))] [])) _
          refine XS.goto X10.here hx rfl (pc0 := 60) (pc' := 10) rfl (hb hby d9_60) (by decide) (by decide) ?_
          exact kt
        obtain ⟨T', lc', r', q', i', X', eT', N', hI', K'⟩ := ih r2 qa (i + (-1 : Int32)) T10 _ (by omega) (own_dec hi hk) (own_turn1 p1 p2 hk hi hI hr2 hqa (hcu.mp hc)) X10 e10 N10
        exact ⟨T', lc', r', q', i', X', eT', N', hI', fun t kt => K12 t (K' t kt)⟩
      · have K13 : ∀ t, Steps p.tables e below (T10.setTop (mkF m 49 #[.val (.long q1), .second, .val (.long q2), .second, .val (.long q3), .second, .val (.long r2), .second, .val (.long qa), .second, .val (.int i)] [(.long (r2 - q3))])) t → Steps p.tables e below (T.setTop (mkF m 10 #[.val (.long q1), .second, .val (.long q2), .second, .val (.long q3), .second, .val (.long r), .second, .val (.long q), .second, .val (.int i)] [])) t := by
          intro t kt
          refine K11 t ?_
          show Steps p.tables e below (T10.setTop (mkF m 41 #[.val (.long q1), .second, .val (.long q2), .second, .val (.long q3), .second, .val (.long r2), .second, .val (.long qa), .second, .val (.int i)] [(.int c10)])) _
          refine XS.ifNo X10.here hx rfl (hb hby d9_41) rfl ((if0 _ _).trans (flt (hc : ¬ (c10 < (0 : Int32)))).1) ?_
          show Steps p.tables e below (T10.setTop (mkF m 44 #[.val (.long q1), .second, .val (.long q2), .second, .val (.long q3), .second, .val (.long r2), .second, .val (.long qa), .second, .val (.int i)] [])) _
          refine XS.lload X10.here hx rfl (hb hby d9_44) rfl ?_
          show Steps p.tables e below (T10.setTop (mkF m 46 #[.val (.long q1), .second, .val (.long q2), .second, .val (.long q3), .second, .val (.long r2), .second, .val (.long qa), .second, .val (.int i)] [(.long r2)])) _
          refine XS.lload X10.here hx rfl (hb hby d9_46) rfl ?_
          show Steps p.tables e below (T10.setTop (mkF m 48 #[.val (.long q1), .second, .val (.long q2), .second, .val (.long q3), .second, .val (.long r2), .second, .val (.long qa), .second, .val (.int i)] [(.long q3), (.long r2)])) _
          refine XS.lsub X10.here hx rfl (hb hby d9_48) rfl ?_
          exact kt
        obtain ⟨r3, hr3⟩ : ∃ z : Int64, z = (r2 - q3) := ⟨_, rfl⟩
        have K14 : ∀ t, Steps p.tables e below (T10.setTop (mkF m 49 #[.val (.long q1), .second, .val (.long q2), .second, .val (.long q3), .second, .val (.long r2), .second, .val (.long qa), .second, .val (.int i)] [(.long r3)])) t → Steps p.tables e below (T.setTop (mkF m 10 #[.val (.long q1), .second, .val (.long q2), .second, .val (.long q3), .second, .val (.long r), .second, .val (.long q), .second, .val (.int i)] [])) t := by
          rw [hr3]; exact K13
        have K15 : ∀ t, Steps p.tables e below (T10.setTop (mkF m 55 #[.val (.long q1), .second, .val (.long q2), .second, .val (.long q3), .second, .val (.long r3), .second, .val (.long qa), .second, .val (.int i)] [(.long (qa ||| (1 : Int64)))])) t → Steps p.tables e below (T.setTop (mkF m 10 #[.val (.long q1), .second, .val (.long q2), .second, .val (.long q3), .second, .val (.long r), .second, .val (.long q), .second, .val (.int i)] [])) t := by
          intro t kt
          refine K14 t ?_
          show Steps p.tables e below (T10.setTop (mkF m 49 #[.val (.long q1), .second, .val (.long q2), .second, .val (.long q3), .second, .val (.long r2), .second, .val (.long qa), .second, .val (.int i)] [(.long r3)])) _
          refine XS.lstore X10.here hx rfl (hb hby d9_49) rfl (l' := #[.val (.long q1), .second, .val (.long q2), .second, .val (.long q3), .second, .val (.long r3), .second, .val (.long qa), .second, .val (.int i)]) rfl ?_
          show Steps p.tables e below (T10.setTop (mkF m 51 #[.val (.long q1), .second, .val (.long q2), .second, .val (.long q3), .second, .val (.long r3), .second, .val (.long qa), .second, .val (.int i)] [])) _
          refine XS.lload X10.here hx rfl (hb hby d9_51) rfl ?_
          show Steps p.tables e below (T10.setTop (mkF m 53 #[.val (.long q1), .second, .val (.long q2), .second, .val (.long q3), .second, .val (.long r3), .second, .val (.long qa), .second, .val (.int i)] [(.long qa)])) _
          refine XS.lconst X10.here hx rfl (hb hby d9_53) ?_
          show Steps p.tables e below (T10.setTop (mkF m 54 #[.val (.long q1), .second, .val (.long q2), .second, .val (.long q3), .second, .val (.long r3), .second, .val (.long qa), .second, .val (.int i)] [(.long (1 : Int64)), (.long qa)])) _
          refine XS.lor X10.here hx rfl (hb hby d9_54) rfl ?_
          exact kt
        obtain ⟨q4, hq4⟩ : ∃ z : Int64, z = (qa ||| (1 : Int64)) := ⟨_, rfl⟩
        have K16 : ∀ t, Steps p.tables e below (T10.setTop (mkF m 55 #[.val (.long q1), .second, .val (.long q2), .second, .val (.long q3), .second, .val (.long r3), .second, .val (.long qa), .second, .val (.int i)] [(.long q4)])) t → Steps p.tables e below (T.setTop (mkF m 10 #[.val (.long q1), .second, .val (.long q2), .second, .val (.long q3), .second, .val (.long r), .second, .val (.long q), .second, .val (.int i)] [])) t := by
          rw [hq4]; exact K15
        have K17 : ∀ t, Steps p.tables e below (T10.setTop (mkF m 10 #[.val (.long q1), .second, .val (.long q2), .second, .val (.long q3), .second, .val (.long r3), .second, .val (.long q4), .second, .val (.int (i + (-1 : Int32)))] [])) t → Steps p.tables e below (T.setTop (mkF m 10 #[.val (.long q1), .second, .val (.long q2), .second, .val (.long q3), .second, .val (.long r), .second, .val (.long q), .second, .val (.int i)] [])) t := by
          intro t kt
          refine K16 t ?_
          show Steps p.tables e below (T10.setTop (mkF m 55 #[.val (.long q1), .second, .val (.long q2), .second, .val (.long q3), .second, .val (.long r3), .second, .val (.long qa), .second, .val (.int i)] [(.long q4)])) _
          refine XS.lstore X10.here hx rfl (hb hby d9_55) rfl (l' := #[.val (.long q1), .second, .val (.long q2), .second, .val (.long q3), .second, .val (.long r3), .second, .val (.long q4), .second, .val (.int i)]) rfl ?_
          show Steps p.tables e below (T10.setTop (mkF m 57 #[.val (.long q1), .second, .val (.long q2), .second, .val (.long q3), .second, .val (.long r3), .second, .val (.long q4), .second, .val (.int i)] [])) _
          refine XS.iinc X10.here hx rfl (hb hby d9_57) rfl (l' := #[.val (.long q1), .second, .val (.long q2), .second, .val (.long q3), .second, .val (.long r3), .second, .val (.long q4), .second, .val (.int (i + (-1 : Int32)))]) rfl ?_
          show Steps p.tables e below (T10.setTop (mkF m 60 #[.val (.long q1), .second, .val (.long q2), .second, .val (.long q3), .second, .val (.long r3), .second, .val (.long q4), .second, .val (.int (i + (-1 : Int32)))] [])) _
          refine XS.goto X10.here hx rfl (pc0 := 60) (pc' := 10) rfl (hb hby d9_60) (by decide) (by decide) ?_
          exact kt
        obtain ⟨T', lc', r', q', i', X', eT', N', hI', K'⟩ := ih r3 q4 (i + (-1 : Int32)) T10 _ (by omega) (own_dec hi hk) (own_turn2 p1 p2 hk hi hI hr2 hqa (fun z => hc (hcu.mpr z)) hr3 hq4) X10 e10 N10
        exact ⟨T', lc', r', q', i', X', eT', N', hI', fun t kt => K17 t (K' t kt)⟩
  obtain ⟨T5, lc5, r5, q5, i5, X5, e5, N5, hI5, st5⟩ := loop 64 q1 0 63 s₁ [] (Nat.le_refl _) (by decide) (own_dinv p1 p2) X0 e0 N0
  have K18 : ∀ t, Steps p.tables e below (T5.setTop (mkF m 63 #[.val (.long q1), .second, .val (.long q2), .second, .val (.long q3), .second, .val (.long r5), .second, .val (.long q5), .second, .val (.int i5)] [])) t → Steps p.tables e below (s₁.setTop (entryFrame m #[(.long q1), (.long q2), (.long q3)] 11)) t := fun t kt => K1 t (st5 t kt)
  have K19 : ∀ t, Steps p.tables e below (T5.setTop (mkF m 65 #[.val (.long q1), .second, .val (.long q2), .second, .val (.long q3), .second, .val (.long r5), .second, .val (.long q5), .second, .val (.int i5)] [(.long q5)])) t → Steps p.tables e below (s₁.setTop (entryFrame m #[(.long q1), (.long q2), (.long q3)] 11)) t := by
    intro t kt
    refine K18 t ?_
    show Steps p.tables e below (T5.setTop (mkF m 63 #[.val (.long q1), .second, .val (.long q2), .second, .val (.long q3), .second, .val (.long r5), .second, .val (.long q5), .second, .val (.int i5)] [])) _
    refine XS.lload X5.here hx rfl (hb hby d9_63) rfl ?_
    exact kt
  obtain ⟨fs, hr, hrun, hended, hW, hsame⟩ := X5.leave (v := some (.long q5)) (fun h => by rw [Bd.returns] at h; cases h) (hlocks := hlk)
  refine ⟨_, _, K19 _ ?_, hrun, hended, _, _, rfl, ?_, ⟨_, rfl⟩, hW, hsame.mono (by decide) (by decide)⟩
  · exact retOut X5 hx Bd.returns rfl (Or.inr (Or.inl ⟨rfl, rfl, _, rfl⟩)) (hb hby d9_65) hr
  · show Qrm9 q1 q2 q3 h0 n0 _ T5.heap _
    rw [e5]
    exact ⟨_, rfl, own_dend p1 p2 hI5, N5, rfl⟩
theorem ef_rm6 (m : MethodId) (x0 : Int64) (x1 : Int64) (x2 : Int64) (x3 : Int64) : entryFrame m #[(.long x0), (.long x1), (.long x2), (.long x3)] 14 = mkF m 0 #[.val (.long x0), .second, .val (.long x1), .second, .val (.long x2), .second, .val (.long x3), .second, .unset, .unset, .unset, .unset, .unset, .unset] [] := by first | (simp [entryFrame, mkF, argsToLocals, Value.category]; done) | rfl
def Qrm6 (q1 q2 q3 q4 : Int64) (h0 : Heap) (n0 : Nat) (v : Option Value) (h : Heap) (L : List Loc) : Prop := ∃ r : Int64, v = some (.long r) ∧ MD q1 q2 q3 q4 r ∧ Fr n0 L ∧ h = h0
set_option maxRecDepth 65536 in
set_option maxHeartbeats 40000000 in
theorem rm6 (l : Launch) (Z : State) (a0 : Array Value) (hw : ∀ d ∈ tables_1, d.before a0 Z = true) (ws : List Jvm.Cond) (q1 q2 q3 q4 : Int64) (h0 : Heap) (n0 : Nat) (Z0 : n0 ≤ h0.size) (p1 : 0 ≤ q1.toInt) (p2 : 0 ≤ q2.toInt) (p3 : 0 ≤ q3.toInt) (p4 : 1 ≤ q4.toInt) :
    MetFree l (⟨"com/example/limtok/limtok/ExactMath", "multiplyDivideWide", "(JJJJ)J"⟩ : MethodName) (head1 (Jvm.Cond.code (⟨"com/example/limtok/limtok/ExactMath", "multiplyDivideWide", "(JJJJ)J"⟩ : MethodName) prog_23_method_3_code 14 (some .long) :: ws) ({ frames := 3, cells := 0, slots := 0, locals := 52 } : Room)) (fun a U => a = #[(.long q1), (.long q2), (.long q3), (.long q4)] ∧ Z.Warmed39 U.vm ∧ U.heap = h0) (fun _ _ _ _ _ => True) (fun _ U o U' => ∃ v L, o = .returned v ∧ Qrm6 q1 q2 q3 q4 h0 n0 v U'.heap L ∧ FrameEnd U o U' L ({ frames := 3, cells := 0, slots := 0, locals := 52 } : Room).cells ({ frames := 3, cells := 0, slots := 0, locals := 52 } : Room).slots) := by
  refine MetFree.of_bodySF (plainFor_of_name pn_2) hisR ?_
  intro p e s m args below meth c s₁ Bd hml0 hP hK
  obtain ⟨rfl, hZ, hh⟩ := hP
  have hx := Bd.exec
  have hlk : meth.locks = false := BodyLoose.notSynchronized Bd
  have hby := Bd.bytes
  have hml : c.maxLocals = 14 := hml0
  have hown : s.vm.findClass "com/example/limtok/limtok/ExactMath" = some m.cls := findClass_of_methodNamed Bd.named
  have hnm := (name_of_methodNamed Bd.named Bd.method).1
  have X0 : Stand p l e ({ frames := 3, cells := 0, slots := 0, locals := 52 } : Room) s m #[(.long q1), (.long q2), (.long q3), (.long q4)] below meth c s₁ [] 0 0 := Stand.of_body Bd
  have e0 : s₁.heap = h0 := by rw [← hh, Bd.state]; rfl
  have N0 := Fr.nil n0
  have K0 : ∀ t, Steps p.tables e below (s₁.setTop (mkF m 0 #[.val (.long q1), .second, .val (.long q2), .second, .val (.long q3), .second, .val (.long q4), .second, .unset, .unset, .unset, .unset, .unset, .unset] [])) t → Steps p.tables e below (s₁.setTop (entryFrame m #[(.long q1), (.long q2), (.long q3), (.long q4)] 14)) t := fun t k => castTop (ef_rm6 m q1 q2 q3 q4) k
  have K1 : ∀ t, Steps p.tables e below (s₁.setTop (mkF m 2 #[.val (.long q1), .second, .val (.long q2), .second, .val (.long q3), .second, .val (.long q4), .second, .unset, .unset, .unset, .unset, .unset, .unset] [(.long q2), (.long q1)])) t → Steps p.tables e below (s₁.setTop (entryFrame m #[(.long q1), (.long q2), (.long q3), (.long q4)] 14)) t := by
    intro t kt
    refine K0 t ?_
    show Steps p.tables e below (s₁.setTop (mkF m 0 #[.val (.long q1), .second, .val (.long q2), .second, .val (.long q3), .second, .val (.long q4), .second, .unset, .unset, .unset, .unset, .unset, .unset] [])) _
    refine XS.lloadN X0.here hx rfl (hb hby d6_0) rfl ?_
    show Steps p.tables e below (s₁.setTop (mkF m 1 #[.val (.long q1), .second, .val (.long q2), .second, .val (.long q3), .second, .val (.long q4), .second, .unset, .unset, .unset, .unset, .unset, .unset] [(.long q1)])) _
    refine XS.lloadN X0.here hx rfl (hb hby d6_1) rfl ?_
    exact kt
  obtain ⟨_, _, ⟨T2, L2, k2, n2⟩, -, X2, ⟨Lc2, hQ2, l2, y2, z2⟩, st2⟩ := Jvm.LawKit.callS X0 hx (y := (⟨"java/lang/Math", "multiplyHigh", "(JJ)J"⟩ : MethodName)) hown (mvT hZ (hw _ (List.mem_of_getElem? (i := 9) rfl))) (mvT hZ (hw _ (List.mem_of_getElem? (i := 10) rfl))) (mvT hZ (hw _ (List.mem_of_getElem? (i := 3) rfl))) (mvT hZ (hw _ (List.mem_of_getElem? (i := 11) rfl))) (by decide) (backOf (W := 0) (rm3 l Z a0 hw [] q1 q2 h0 n0 Z0 p1 p2) hZ (hw _ (List.mem_of_getElem? (i := 11) rfl)) (hw _ (List.mem_of_getElem? (i := 3) rfl)) (by decide) (by decide)) (g := (mkF m 2 #[.val (.long q1), .second, .val (.long q2), .second, .val (.long q3), .second, .val (.long q4), .second, .unset, .unset, .unset, .unset, .unset, .unset] [(.long q2), (.long q1)])) rfl (by rw [hml]; rfl) (argsL := [(.long q1), (.long q2)]) (rest := []) (lenOf pd_1 rfl) rfl (by show 2 * 0 + _ ≤ _; exact Nat.le_of_eq rfl) (hb hby d6_2) (fun _ _ => ⟨rfl, e0, (by decide : 0 + 0 ≤ _), (by decide : 0 + 0 ≤ _)⟩)
  dsimp only [Pt.U, Pt.locs, Pt.cells, Pt.slots] at X2 l2 y2 z2 st2 hQ2
  subst l2 y2 z2
  obtain ⟨hi, rfl, hhi, Nq2, e2⟩ := hQ2
  have N2 := Fr.app N0 Nq2
  have K3 : ∀ t, Steps p.tables e below (T2.setTop (mkF m 5 #[.val (.long q1), .second, .val (.long q2), .second, .val (.long q3), .second, .val (.long q4), .second, .unset, .unset, .unset, .unset, .unset, .unset] [(.long hi)])) t → Steps p.tables e below (s₁.setTop (entryFrame m #[(.long q1), (.long q2), (.long q3), (.long q4)] 14)) t := fun t kt => K1 t (st2 t kt)
  have K4 : ∀ t, Steps p.tables e below (T2.setTop (mkF m 13 #[.val (.long q1), .second, .val (.long q2), .second, .val (.long q3), .second, .val (.long q4), .second, .val (.long hi), .second, .unset, .unset, .unset, .unset] [(.long ((q1 * q2) + q3))])) t → Steps p.tables e below (s₁.setTop (entryFrame m #[(.long q1), (.long q2), (.long q3), (.long q4)] 14)) t := by
    intro t kt
    refine K3 t ?_
    show Steps p.tables e below (T2.setTop (mkF m 5 #[.val (.long q1), .second, .val (.long q2), .second, .val (.long q3), .second, .val (.long q4), .second, .unset, .unset, .unset, .unset, .unset, .unset] [(.long hi)])) _
    refine XS.lstore X2.here hx rfl (hb hby d6_5) rfl (l' := #[.val (.long q1), .second, .val (.long q2), .second, .val (.long q3), .second, .val (.long q4), .second, .val (.long hi), .second, .unset, .unset, .unset, .unset]) rfl ?_
    show Steps p.tables e below (T2.setTop (mkF m 7 #[.val (.long q1), .second, .val (.long q2), .second, .val (.long q3), .second, .val (.long q4), .second, .val (.long hi), .second, .unset, .unset, .unset, .unset] [])) _
    refine XS.lloadN X2.here hx rfl (hb hby d6_7) rfl ?_
    show Steps p.tables e below (T2.setTop (mkF m 8 #[.val (.long q1), .second, .val (.long q2), .second, .val (.long q3), .second, .val (.long q4), .second, .val (.long hi), .second, .unset, .unset, .unset, .unset] [(.long q1)])) _
    refine XS.lloadN X2.here hx rfl (hb hby d6_8) rfl ?_
    show Steps p.tables e below (T2.setTop (mkF m 9 #[.val (.long q1), .second, .val (.long q2), .second, .val (.long q3), .second, .val (.long q4), .second, .val (.long hi), .second, .unset, .unset, .unset, .unset] [(.long q2), (.long q1)])) _
    refine XS.lmul X2.here hx rfl (hb hby d6_9) rfl ?_
    show Steps p.tables e below (T2.setTop (mkF m 10 #[.val (.long q1), .second, .val (.long q2), .second, .val (.long q3), .second, .val (.long q4), .second, .val (.long hi), .second, .unset, .unset, .unset, .unset] [(.long (q1 * q2))])) _
    refine XS.lload X2.here hx rfl (hb hby d6_10) rfl ?_
    show Steps p.tables e below (T2.setTop (mkF m 12 #[.val (.long q1), .second, .val (.long q2), .second, .val (.long q3), .second, .val (.long q4), .second, .val (.long hi), .second, .unset, .unset, .unset, .unset] [(.long q3), (.long (q1 * q2))])) _
    refine XS.ladd X2.here hx rfl (hb hby d6_12) rfl ?_
    exact kt
  obtain ⟨lo, hlo⟩ : ∃ z : Int64, z = ((q1 * q2) + q3) := ⟨_, rfl⟩
  have K5 : ∀ t, Steps p.tables e below (T2.setTop (mkF m 13 #[.val (.long q1), .second, .val (.long q2), .second, .val (.long q3), .second, .val (.long q4), .second, .val (.long hi), .second, .unset, .unset, .unset, .unset] [(.long lo)])) t → Steps p.tables e below (s₁.setTop (entryFrame m #[(.long q1), (.long q2), (.long q3), (.long q4)] 14)) t := by
    rw [hlo]; exact K4
  have K6 : ∀ t, Steps p.tables e below (T2.setTop (mkF m 19 #[.val (.long q1), .second, .val (.long q2), .second, .val (.long q3), .second, .val (.long q4), .second, .val (.long hi), .second, .val (.long lo), .second, .unset, .unset] [(.long q3), (.long lo)])) t → Steps p.tables e below (s₁.setTop (entryFrame m #[(.long q1), (.long q2), (.long q3), (.long q4)] 14)) t := by
    intro t kt
    refine K5 t ?_
    show Steps p.tables e below (T2.setTop (mkF m 13 #[.val (.long q1), .second, .val (.long q2), .second, .val (.long q3), .second, .val (.long q4), .second, .val (.long hi), .second, .unset, .unset, .unset, .unset] [(.long lo)])) _
    refine XS.lstore X2.here hx rfl (hb hby d6_13) rfl (l' := #[.val (.long q1), .second, .val (.long q2), .second, .val (.long q3), .second, .val (.long q4), .second, .val (.long hi), .second, .val (.long lo), .second, .unset, .unset]) rfl ?_
    show Steps p.tables e below (T2.setTop (mkF m 15 #[.val (.long q1), .second, .val (.long q2), .second, .val (.long q3), .second, .val (.long q4), .second, .val (.long hi), .second, .val (.long lo), .second, .unset, .unset] [])) _
    refine XS.lload X2.here hx rfl (hb hby d6_15) rfl ?_
    show Steps p.tables e below (T2.setTop (mkF m 17 #[.val (.long q1), .second, .val (.long q2), .second, .val (.long q3), .second, .val (.long q4), .second, .val (.long hi), .second, .val (.long lo), .second, .unset, .unset] [(.long lo)])) _
    refine XS.lload X2.here hx rfl (hb hby d6_17) rfl ?_
    exact kt
  obtain ⟨_, _, ⟨T7, L7, k7, n7⟩, -, X7, ⟨Lc7, hQ7, l7, y7, z7⟩, st7⟩ := Jvm.LawKit.callS X2 hx (y := (⟨"java/lang/Long", "compareUnsigned", "(JJ)I"⟩ : MethodName)) hown (mvT hZ (hw _ (List.mem_of_getElem? (i := 25) rfl))) (mvT hZ (hw _ (List.mem_of_getElem? (i := 26) rfl))) (mvT hZ (hw _ (List.mem_of_getElem? (i := 27) rfl))) (mvT hZ (hw _ (List.mem_of_getElem? (i := 28) rfl))) (by decide) (backOf (W := 0) (rm7 l Z a0 hw [] lo q3 h0 n0 Z0) hZ (hw _ (List.mem_of_getElem? (i := 28) rfl)) (hw _ (List.mem_of_getElem? (i := 27) rfl)) (by decide) (by decide)) (g := (mkF m 19 #[.val (.long q1), .second, .val (.long q2), .second, .val (.long q3), .second, .val (.long q4), .second, .val (.long hi), .second, .val (.long lo), .second, .unset, .unset] [(.long q3), (.long lo)])) rfl (by rw [hml]; rfl) (argsL := [(.long lo), (.long q3)]) (rest := []) (lenOf pd_0 rfl) rfl (by show 2 * 0 + _ ≤ _; exact Nat.le_of_eq rfl) (hb hby d6_19) (fun _ _ => ⟨rfl, e2, (by decide : 0 + 0 ≤ _), (by decide : 0 + 0 ≤ _)⟩)
  dsimp only [Pt.U, Pt.locs, Pt.cells, Pt.slots] at X7 l7 y7 z7 st7 hQ7
  subst l7 y7 z7
  obtain ⟨c7, rfl, hr7, Nq7, e7⟩ := hQ7
  have N7 := Fr.app N2 Nq7
  have K8 : ∀ t, Steps p.tables e below (T7.setTop (mkF m 22 #[.val (.long q1), .second, .val (.long q2), .second, .val (.long q3), .second, .val (.long q4), .second, .val (.long hi), .second, .val (.long lo), .second, .unset, .unset] [(.int c7)])) t → Steps p.tables e below (s₁.setTop (entryFrame m #[(.long q1), (.long q2), (.long q3), (.long q4)] 14)) t := fun t kt => K6 t (st7 t kt)
  have hcu := own_cul hr7
  by_cases hc : c7 < (0 : Int32)
  · have K9 : ∀ t, Steps p.tables e below (T7.setTop (mkF m 29 #[.val (.long q1), .second, .val (.long q2), .second, .val (.long q3), .second, .val (.long q4), .second, .val (.long hi), .second, .val (.long lo), .second, .unset, .unset] [(.long (hi + (1 : Int64)))])) t → Steps p.tables e below (s₁.setTop (entryFrame m #[(.long q1), (.long q2), (.long q3), (.long q4)] 14)) t := by
      intro t kt
      refine K8 t ?_
      show Steps p.tables e below (T7.setTop (mkF m 22 #[.val (.long q1), .second, .val (.long q2), .second, .val (.long q3), .second, .val (.long q4), .second, .val (.long hi), .second, .val (.long lo), .second, .unset, .unset] [(.int c7)])) _
      refine XS.ifNo X7.here hx rfl (hb hby d6_22) rfl ((if0 _ _).trans (tlt (hc : c7 < (0 : Int32))).2.1) ?_
      show Steps p.tables e below (T7.setTop (mkF m 25 #[.val (.long q1), .second, .val (.long q2), .second, .val (.long q3), .second, .val (.long q4), .second, .val (.long hi), .second, .val (.long lo), .second, .unset, .unset] [])) _
      refine XS.lload X7.here hx rfl (hb hby d6_25) rfl ?_
      show Steps p.tables e below (T7.setTop (mkF m 27 #[.val (.long q1), .second, .val (.long q2), .second, .val (.long q3), .second, .val (.long q4), .second, .val (.long hi), .second, .val (.long lo), .second, .unset, .unset] [(.long hi)])) _
      refine XS.lconst X7.here hx rfl (hb hby d6_27) ?_
      show Steps p.tables e below (T7.setTop (mkF m 28 #[.val (.long q1), .second, .val (.long q2), .second, .val (.long q3), .second, .val (.long q4), .second, .val (.long hi), .second, .val (.long lo), .second, .unset, .unset] [(.long (1 : Int64)), (.long hi)])) _
      refine XS.ladd X7.here hx rfl (hb hby d6_28) rfl ?_
      exact kt
    obtain ⟨hj, hhj⟩ : ∃ z : Int64, z = (hi + (1 : Int64)) := ⟨_, rfl⟩
    have K10 : ∀ t, Steps p.tables e below (T7.setTop (mkF m 29 #[.val (.long q1), .second, .val (.long q2), .second, .val (.long q3), .second, .val (.long q4), .second, .val (.long hi), .second, .val (.long lo), .second, .unset, .unset] [(.long hj)])) t → Steps p.tables e below (s₁.setTop (entryFrame m #[(.long q1), (.long q2), (.long q3), (.long q4)] 14)) t := by
      rw [hhj]; exact K9
    have K11 : ∀ t, Steps p.tables e below (T7.setTop (mkF m 31 #[.val (.long q1), .second, .val (.long q2), .second, .val (.long q3), .second, .val (.long q4), .second, .val (.long hj), .second, .val (.long lo), .second, .unset, .unset] [])) t → Steps p.tables e below (s₁.setTop (entryFrame m #[(.long q1), (.long q2), (.long q3), (.long q4)] 14)) t := by
      intro t kt
      refine K10 t ?_
      show Steps p.tables e below (T7.setTop (mkF m 29 #[.val (.long q1), .second, .val (.long q2), .second, .val (.long q3), .second, .val (.long q4), .second, .val (.long hi), .second, .val (.long lo), .second, .unset, .unset] [(.long hj)])) _
      refine XS.lstore X7.here hx rfl (hb hby d6_29) rfl (l' := #[.val (.long q1), .second, .val (.long q2), .second, .val (.long q3), .second, .val (.long q4), .second, .val (.long hj), .second, .val (.long lo), .second, .unset, .unset]) rfl ?_
      exact kt
    have hP : HL q1 q2 q3 hj lo := own_hl2 p1 p2 p3 hhi hlo (hcu.mp hc) hhj
    have K12 : ∀ t, Steps p.tables e below (T7.setTop (mkF m 41 #[.val (.long q1), .second, .val (.long q2), .second, .val (.long q3), .second, .val (.long q4), .second, .val (.long hj), .second, .val (.long lo), .second, .unset, .unset] [(.long ((hj <<< ((1 : Int32) &&& 0x3f).toInt64) ||| ((lo.toUInt64 >>> ((63 : Int32) &&& 0x3f).toInt64.toUInt64).toInt64)))])) t → Steps p.tables e below (s₁.setTop (entryFrame m #[(.long q1), (.long q2), (.long q3), (.long q4)] 14)) t := by
      intro t kt
      refine K11 t ?_
      show Steps p.tables e below (T7.setTop (mkF m 31 #[.val (.long q1), .second, .val (.long q2), .second, .val (.long q3), .second, .val (.long q4), .second, .val (.long hj), .second, .val (.long lo), .second, .unset, .unset] [])) _
      refine XS.lload X7.here hx rfl (hb hby d6_31) rfl ?_
      show Steps p.tables e below (T7.setTop (mkF m 33 #[.val (.long q1), .second, .val (.long q2), .second, .val (.long q3), .second, .val (.long q4), .second, .val (.long hj), .second, .val (.long lo), .second, .unset, .unset] [(.long hj)])) _
      refine XS.iconst X7.here hx rfl (hb hby d6_33) ?_
      show Steps p.tables e below (T7.setTop (mkF m 34 #[.val (.long q1), .second, .val (.long q2), .second, .val (.long q3), .second, .val (.long q4), .second, .val (.long hj), .second, .val (.long lo), .second, .unset, .unset] [(.int (1 : Int32)), (.long hj)])) _
      refine XS.lshl X7.here hx rfl (hb hby d6_34) rfl ?_
      show Steps p.tables e below (T7.setTop (mkF m 35 #[.val (.long q1), .second, .val (.long q2), .second, .val (.long q3), .second, .val (.long q4), .second, .val (.long hj), .second, .val (.long lo), .second, .unset, .unset] [(.long (hj <<< ((1 : Int32) &&& 0x3f).toInt64))])) _
      refine XS.lload X7.here hx rfl (hb hby d6_35) rfl ?_
      show Steps p.tables e below (T7.setTop (mkF m 37 #[.val (.long q1), .second, .val (.long q2), .second, .val (.long q3), .second, .val (.long q4), .second, .val (.long hj), .second, .val (.long lo), .second, .unset, .unset] [(.long lo), (.long (hj <<< ((1 : Int32) &&& 0x3f).toInt64))])) _
      refine XS.bipush X7.here hx rfl (hb hby d6_37) ?_
      show Steps p.tables e below (T7.setTop (mkF m 39 #[.val (.long q1), .second, .val (.long q2), .second, .val (.long q3), .second, .val (.long q4), .second, .val (.long hj), .second, .val (.long lo), .second, .unset, .unset] [(.int (63 : Int32)), (.long lo), (.long (hj <<< ((1 : Int32) &&& 0x3f).toInt64))])) _
      refine XS.lushr X7.here hx rfl (hb hby d6_39) rfl ?_
      show Steps p.tables e below (T7.setTop (mkF m 40 #[.val (.long q1), .second, .val (.long q2), .second, .val (.long q3), .second, .val (.long q4), .second, .val (.long hj), .second, .val (.long lo), .second, .unset, .unset] [(.long ((lo.toUInt64 >>> ((63 : Int32) &&& 0x3f).toInt64.toUInt64).toInt64)), (.long (hj <<< ((1 : Int32) &&& 0x3f).toInt64))])) _
      refine XS.lor X7.here hx rfl (hb hby d6_40) rfl ?_
      exact kt
    obtain ⟨sv, hsv⟩ : ∃ z : Int64, z = ((hj <<< ((1 : Int32) &&& 0x3f).toInt64) ||| ((lo.toUInt64 >>> ((63 : Int32) &&& 0x3f).toInt64.toUInt64).toInt64)) := ⟨_, rfl⟩
    have K13 : ∀ t, Steps p.tables e below (T7.setTop (mkF m 41 #[.val (.long q1), .second, .val (.long q2), .second, .val (.long q3), .second, .val (.long q4), .second, .val (.long hj), .second, .val (.long lo), .second, .unset, .unset] [(.long sv)])) t → Steps p.tables e below (s₁.setTop (entryFrame m #[(.long q1), (.long q2), (.long q3), (.long q4)] 14)) t := by
      rw [hsv]; exact K12
    have K14 : ∀ t, Steps p.tables e below (T7.setTop (mkF m 44 #[.val (.long q1), .second, .val (.long q2), .second, .val (.long q3), .second, .val (.long q4), .second, .val (.long hj), .second, .val (.long lo), .second, .unset, .unset] [(.int (lcmpW sv q4))])) t → Steps p.tables e below (s₁.setTop (entryFrame m #[(.long q1), (.long q2), (.long q3), (.long q4)] 14)) t := by
      intro t kt
      refine K13 t ?_
      show Steps p.tables e below (T7.setTop (mkF m 41 #[.val (.long q1), .second, .val (.long q2), .second, .val (.long q3), .second, .val (.long q4), .second, .val (.long hj), .second, .val (.long lo), .second, .unset, .unset] [(.long sv)])) _
      refine XS.lload X7.here hx rfl (hb hby d6_41) rfl ?_
      show Steps p.tables e below (T7.setTop (mkF m 43 #[.val (.long q1), .second, .val (.long q2), .second, .val (.long q3), .second, .val (.long q4), .second, .val (.long hj), .second, .val (.long lo), .second, .unset, .unset] [(.long q4), (.long sv)])) _
      refine XS.lcmp X7.here hx rfl (hb hby d6_43) rfl ?_
      exact kt
    by_cases hd : (lcmpW sv q4) < (0 : Int32)
    · have K15 : ∀ t, Steps p.tables e below (T7.setTop (mkF m 61 #[.val (.long q1), .second, .val (.long q2), .second, .val (.long q3), .second, .val (.long q4), .second, .val (.long hj), .second, .val (.long lo), .second, .unset, .unset] [(.long q4), (.long lo), (.long hj)])) t → Steps p.tables e below (s₁.setTop (entryFrame m #[(.long q1), (.long q2), (.long q3), (.long q4)] 14)) t := by
        intro t kt
        refine K14 t ?_
        show Steps p.tables e below (T7.setTop (mkF m 44 #[.val (.long q1), .second, .val (.long q2), .second, .val (.long q3), .second, .val (.long q4), .second, .val (.long hj), .second, .val (.long lo), .second, .unset, .unset] [(.int (lcmpW sv q4))])) _
        refine XS.ifYes X7.here hx rfl (pc0 := 44) (pc' := 55) rfl (hb hby d6_44) rfl ((if0 _ _).trans (tlt (hd : (lcmpW sv q4) < (0 : Int32))).1) (by decide) (by decide) ?_
        show Steps p.tables e below (T7.setTop (mkF m 55 #[.val (.long q1), .second, .val (.long q2), .second, .val (.long q3), .second, .val (.long q4), .second, .val (.long hj), .second, .val (.long lo), .second, .unset, .unset] [])) _
        refine XS.lload X7.here hx rfl (hb hby d6_55) rfl ?_
        show Steps p.tables e below (T7.setTop (mkF m 57 #[.val (.long q1), .second, .val (.long q2), .second, .val (.long q3), .second, .val (.long q4), .second, .val (.long hj), .second, .val (.long lo), .second, .unset, .unset] [(.long hj)])) _
        refine XS.lload X7.here hx rfl (hb hby d6_57) rfl ?_
        show Steps p.tables e below (T7.setTop (mkF m 59 #[.val (.long q1), .second, .val (.long q2), .second, .val (.long q3), .second, .val (.long q4), .second, .val (.long hj), .second, .val (.long lo), .second, .unset, .unset] [(.long lo), (.long hj)])) _
        refine XS.lload X7.here hx rfl (hb hby d6_59) rfl ?_
        exact kt
      obtain ⟨_, _, ⟨T16, L16, k16, n16⟩, -, X16, ⟨Lc16, hQ16, l16, y16, z16⟩, st16⟩ := Jvm.LawKit.callS X7 hx (y := (⟨"com/example/limtok/limtok/ExactMath", "divideWide", "(JJJ)J"⟩ : MethodName)) hown (mvT hZ (hw _ (List.mem_of_getElem? (i := 33) rfl))) (mvT hZ (hw _ (List.mem_of_getElem? (i := 34) rfl))) (mvT hZ (hw _ (List.mem_of_getElem? (i := 7) rfl))) (mvT hZ (hw _ (List.mem_of_getElem? (i := 35) rfl))) (by decide) (backOf (W := 0) (rm9 l Z a0 hw [] hj lo q4 h0 n0 Z0 (own_dw p1 p2 p3 p4 hP hsv ((lw_lt _ _).mp hd)).1 (own_dw p1 p2 p3 p4 hP hsv ((lw_lt _ _).mp hd)).2) hZ (hw _ (List.mem_of_getElem? (i := 35) rfl)) (hw _ (List.mem_of_getElem? (i := 7) rfl)) (by decide) (by decide)) (g := (mkF m 61 #[.val (.long q1), .second, .val (.long q2), .second, .val (.long q3), .second, .val (.long q4), .second, .val (.long hj), .second, .val (.long lo), .second, .unset, .unset] [(.long q4), (.long lo), (.long hj)])) rfl (by rw [hml]; rfl) (argsL := [(.long hj), (.long lo), (.long q4)]) (rest := []) (lenOf pd_2 rfl) rfl (by show 2 * 0 + _ ≤ _; exact Nat.le_of_eq rfl) (hb hby d6_61) (fun _ _ => ⟨rfl, e7, (by decide : 0 + 0 ≤ _), (by decide : 0 + 0 ≤ _)⟩)
      dsimp only [Pt.U, Pt.locs, Pt.cells, Pt.slots] at X16 l16 y16 z16 st16 hQ16
      subst l16 y16 z16
      obtain ⟨q9, rfl, hq9, Nq16, e16⟩ := hQ16
      have N16 := Fr.app N7 Nq16
      have K17 : ∀ t, Steps p.tables e below (T16.setTop (mkF m 64 #[.val (.long q1), .second, .val (.long q2), .second, .val (.long q3), .second, .val (.long q4), .second, .val (.long hj), .second, .val (.long lo), .second, .unset, .unset] [(.long q9)])) t → Steps p.tables e below (s₁.setTop (entryFrame m #[(.long q1), (.long q2), (.long q3), (.long q4)] 14)) t := fun t kt => K15 t (st16 t kt)
      have K18 : ∀ t, Steps p.tables e below (T16.setTop (mkF m 68 #[.val (.long q1), .second, .val (.long q2), .second, .val (.long q3), .second, .val (.long q4), .second, .val (.long hj), .second, .val (.long lo), .second, .val (.long q9), .second] [(.long q9)])) t → Steps p.tables e below (s₁.setTop (entryFrame m #[(.long q1), (.long q2), (.long q3), (.long q4)] 14)) t := by
        intro t kt
        refine K17 t ?_
        show Steps p.tables e below (T16.setTop (mkF m 64 #[.val (.long q1), .second, .val (.long q2), .second, .val (.long q3), .second, .val (.long q4), .second, .val (.long hj), .second, .val (.long lo), .second, .unset, .unset] [(.long q9)])) _
        refine XS.lstore X16.here hx rfl (hb hby d6_64) rfl (l' := #[.val (.long q1), .second, .val (.long q2), .second, .val (.long q3), .second, .val (.long q4), .second, .val (.long hj), .second, .val (.long lo), .second, .val (.long q9), .second]) rfl ?_
        show Steps p.tables e below (T16.setTop (mkF m 66 #[.val (.long q1), .second, .val (.long q2), .second, .val (.long q3), .second, .val (.long q4), .second, .val (.long hj), .second, .val (.long lo), .second, .val (.long q9), .second] [])) _
        refine XS.lload X16.here hx rfl (hb hby d6_66) rfl ?_
        exact kt
      obtain ⟨fs, hr, hrun, hended, hW, hsame⟩ := X16.leave (v := some (.long q9)) (fun h => by rw [Bd.returns] at h; cases h) (hlocks := hlk)
      refine ⟨_, _, K18 _ ?_, hrun, hended, _, _, rfl, ?_, ⟨_, rfl⟩, hW, hsame.mono (by decide) (by decide)⟩
      · exact retOut X16 hx Bd.returns rfl (Or.inr (Or.inl ⟨rfl, rfl, _, rfl⟩)) (hb hby d6_68) hr
      · show Qrm6 q1 q2 q3 q4 h0 n0 _ T16.heap _
        rw [e16]
        exact ⟨_, rfl, own_mdw p1 p2 p3 p4 hP hsv ((lw_lt _ _).mp hd) hq9, N16, rfl⟩
    · have K19 : ∀ t, Steps p.tables e below (T7.setTop (mkF m 68 #[.val (.long q1), .second, .val (.long q2), .second, .val (.long q3), .second, .val (.long q4), .second, .val (.long hj), .second, .val (.long lo), .second, .val (.long (9223372036854775807 : Int64)), .second] [(.long (9223372036854775807 : Int64))])) t → Steps p.tables e below (s₁.setTop (entryFrame m #[(.long q1), (.long q2), (.long q3), (.long q4)] 14)) t := by
        intro t kt
        refine K14 t ?_
        show Steps p.tables e below (T7.setTop (mkF m 44 #[.val (.long q1), .second, .val (.long q2), .second, .val (.long q3), .second, .val (.long q4), .second, .val (.long hj), .second, .val (.long lo), .second, .unset, .unset] [(.int (lcmpW sv q4))])) _
        refine XS.ifNo X7.here hx rfl (hb hby d6_44) rfl ((if0 _ _).trans (flt (hd : ¬ ((lcmpW sv q4) < (0 : Int32)))).1) ?_
        show Steps p.tables e below (T7.setTop (mkF m 47 #[.val (.long q1), .second, .val (.long q2), .second, .val (.long q3), .second, .val (.long q4), .second, .val (.long hj), .second, .val (.long lo), .second, .unset, .unset] [])) _
        refine X7.ldc2Long hx hown (mvT hZ (hw _ (List.mem_of_getElem? (i := 36) rfl))) (g := (mkF m 47 #[.val (.long q1), .second, .val (.long q2), .second, .val (.long q3), .second, .val (.long q4), .second, .val (.long hj), .second, .val (.long lo), .second, .unset, .unset] [])) rfl (hb hby d6_47) _ ?_
        show Steps p.tables e below (T7.setTop (mkF m 50 #[.val (.long q1), .second, .val (.long q2), .second, .val (.long q3), .second, .val (.long q4), .second, .val (.long hj), .second, .val (.long lo), .second, .unset, .unset] [(.long (9223372036854775807 : Int64))])) _
        refine XS.lstore X7.here hx rfl (hb hby d6_50) rfl (l' := #[.val (.long q1), .second, .val (.long q2), .second, .val (.long q3), .second, .val (.long q4), .second, .val (.long hj), .second, .val (.long lo), .second, .val (.long (9223372036854775807 : Int64)), .second]) rfl ?_
        show Steps p.tables e below (T7.setTop (mkF m 52 #[.val (.long q1), .second, .val (.long q2), .second, .val (.long q3), .second, .val (.long q4), .second, .val (.long hj), .second, .val (.long lo), .second, .val (.long (9223372036854775807 : Int64)), .second] [])) _
        refine XS.goto X7.here hx rfl (pc0 := 52) (pc' := 66) rfl (hb hby d6_52) (by decide) (by decide) ?_
        show Steps p.tables e below (T7.setTop (mkF m 66 #[.val (.long q1), .second, .val (.long q2), .second, .val (.long q3), .second, .val (.long q4), .second, .val (.long hj), .second, .val (.long lo), .second, .val (.long (9223372036854775807 : Int64)), .second] [])) _
        refine XS.lload X7.here hx rfl (hb hby d6_66) rfl ?_
        exact kt
      obtain ⟨fs, hr, hrun, hended, hW, hsame⟩ := X7.leave (v := some (.long (9223372036854775807 : Int64))) (fun h => by rw [Bd.returns] at h; cases h) (hlocks := hlk)
      refine ⟨_, _, K19 _ ?_, hrun, hended, _, _, rfl, ?_, ⟨_, rfl⟩, hW, hsame.mono (by decide) (by decide)⟩
      · exact retOut X7 hx Bd.returns rfl (Or.inr (Or.inl ⟨rfl, rfl, _, rfl⟩)) (hb hby d6_68) hr
      · show Qrm6 q1 q2 q3 q4 h0 n0 _ T7.heap _
        rw [e7]
        exact ⟨_, rfl, own_mdmax p1 p2 p3 p4 hP hsv (fun z => hd ((lw_lt _ _).mpr z)), N7, rfl⟩
  · have K20 : ∀ t, Steps p.tables e below (T7.setTop (mkF m 31 #[.val (.long q1), .second, .val (.long q2), .second, .val (.long q3), .second, .val (.long q4), .second, .val (.long hi), .second, .val (.long lo), .second, .unset, .unset] [])) t → Steps p.tables e below (s₁.setTop (entryFrame m #[(.long q1), (.long q2), (.long q3), (.long q4)] 14)) t := by
      intro t kt
      refine K8 t ?_
      show Steps p.tables e below (T7.setTop (mkF m 22 #[.val (.long q1), .second, .val (.long q2), .second, .val (.long q3), .second, .val (.long q4), .second, .val (.long hi), .second, .val (.long lo), .second, .unset, .unset] [(.int c7)])) _
      refine XS.ifYes X7.here hx rfl (pc0 := 22) (pc' := 31) rfl (hb hby d6_22) rfl ((if0 _ _).trans (flt (hc : ¬ (c7 < (0 : Int32)))).2.1) (by decide) (by decide) ?_
      exact kt
    have hP : HL q1 q2 q3 hi lo := own_hl1 p1 p2 p3 hhi hlo (fun z => hc (hcu.mpr z))
    have K21 : ∀ t, Steps p.tables e below (T7.setTop (mkF m 41 #[.val (.long q1), .second, .val (.long q2), .second, .val (.long q3), .second, .val (.long q4), .second, .val (.long hi), .second, .val (.long lo), .second, .unset, .unset] [(.long ((hi <<< ((1 : Int32) &&& 0x3f).toInt64) ||| ((lo.toUInt64 >>> ((63 : Int32) &&& 0x3f).toInt64.toUInt64).toInt64)))])) t → Steps p.tables e below (s₁.setTop (entryFrame m #[(.long q1), (.long q2), (.long q3), (.long q4)] 14)) t := by
      intro t kt
      refine K20 t ?_
      show Steps p.tables e below (T7.setTop (mkF m 31 #[.val (.long q1), .second, .val (.long q2), .second, .val (.long q3), .second, .val (.long q4), .second, .val (.long hi), .second, .val (.long lo), .second, .unset, .unset] [])) _
      refine XS.lload X7.here hx rfl (hb hby d6_31) rfl ?_
      show Steps p.tables e below (T7.setTop (mkF m 33 #[.val (.long q1), .second, .val (.long q2), .second, .val (.long q3), .second, .val (.long q4), .second, .val (.long hi), .second, .val (.long lo), .second, .unset, .unset] [(.long hi)])) _
      refine XS.iconst X7.here hx rfl (hb hby d6_33) ?_
      show Steps p.tables e below (T7.setTop (mkF m 34 #[.val (.long q1), .second, .val (.long q2), .second, .val (.long q3), .second, .val (.long q4), .second, .val (.long hi), .second, .val (.long lo), .second, .unset, .unset] [(.int (1 : Int32)), (.long hi)])) _
      refine XS.lshl X7.here hx rfl (hb hby d6_34) rfl ?_
      show Steps p.tables e below (T7.setTop (mkF m 35 #[.val (.long q1), .second, .val (.long q2), .second, .val (.long q3), .second, .val (.long q4), .second, .val (.long hi), .second, .val (.long lo), .second, .unset, .unset] [(.long (hi <<< ((1 : Int32) &&& 0x3f).toInt64))])) _
      refine XS.lload X7.here hx rfl (hb hby d6_35) rfl ?_
      show Steps p.tables e below (T7.setTop (mkF m 37 #[.val (.long q1), .second, .val (.long q2), .second, .val (.long q3), .second, .val (.long q4), .second, .val (.long hi), .second, .val (.long lo), .second, .unset, .unset] [(.long lo), (.long (hi <<< ((1 : Int32) &&& 0x3f).toInt64))])) _
      refine XS.bipush X7.here hx rfl (hb hby d6_37) ?_
      show Steps p.tables e below (T7.setTop (mkF m 39 #[.val (.long q1), .second, .val (.long q2), .second, .val (.long q3), .second, .val (.long q4), .second, .val (.long hi), .second, .val (.long lo), .second, .unset, .unset] [(.int (63 : Int32)), (.long lo), (.long (hi <<< ((1 : Int32) &&& 0x3f).toInt64))])) _
      refine XS.lushr X7.here hx rfl (hb hby d6_39) rfl ?_
      show Steps p.tables e below (T7.setTop (mkF m 40 #[.val (.long q1), .second, .val (.long q2), .second, .val (.long q3), .second, .val (.long q4), .second, .val (.long hi), .second, .val (.long lo), .second, .unset, .unset] [(.long ((lo.toUInt64 >>> ((63 : Int32) &&& 0x3f).toInt64.toUInt64).toInt64)), (.long (hi <<< ((1 : Int32) &&& 0x3f).toInt64))])) _
      refine XS.lor X7.here hx rfl (hb hby d6_40) rfl ?_
      exact kt
    obtain ⟨sv, hsv⟩ : ∃ z : Int64, z = ((hi <<< ((1 : Int32) &&& 0x3f).toInt64) ||| ((lo.toUInt64 >>> ((63 : Int32) &&& 0x3f).toInt64.toUInt64).toInt64)) := ⟨_, rfl⟩
    have K22 : ∀ t, Steps p.tables e below (T7.setTop (mkF m 41 #[.val (.long q1), .second, .val (.long q2), .second, .val (.long q3), .second, .val (.long q4), .second, .val (.long hi), .second, .val (.long lo), .second, .unset, .unset] [(.long sv)])) t → Steps p.tables e below (s₁.setTop (entryFrame m #[(.long q1), (.long q2), (.long q3), (.long q4)] 14)) t := by
      rw [hsv]; exact K21
    have K23 : ∀ t, Steps p.tables e below (T7.setTop (mkF m 44 #[.val (.long q1), .second, .val (.long q2), .second, .val (.long q3), .second, .val (.long q4), .second, .val (.long hi), .second, .val (.long lo), .second, .unset, .unset] [(.int (lcmpW sv q4))])) t → Steps p.tables e below (s₁.setTop (entryFrame m #[(.long q1), (.long q2), (.long q3), (.long q4)] 14)) t := by
      intro t kt
      refine K22 t ?_
      show Steps p.tables e below (T7.setTop (mkF m 41 #[.val (.long q1), .second, .val (.long q2), .second, .val (.long q3), .second, .val (.long q4), .second, .val (.long hi), .second, .val (.long lo), .second, .unset, .unset] [(.long sv)])) _
      refine XS.lload X7.here hx rfl (hb hby d6_41) rfl ?_
      show Steps p.tables e below (T7.setTop (mkF m 43 #[.val (.long q1), .second, .val (.long q2), .second, .val (.long q3), .second, .val (.long q4), .second, .val (.long hi), .second, .val (.long lo), .second, .unset, .unset] [(.long q4), (.long sv)])) _
      refine XS.lcmp X7.here hx rfl (hb hby d6_43) rfl ?_
      exact kt
    by_cases hd : (lcmpW sv q4) < (0 : Int32)
    · have K24 : ∀ t, Steps p.tables e below (T7.setTop (mkF m 61 #[.val (.long q1), .second, .val (.long q2), .second, .val (.long q3), .second, .val (.long q4), .second, .val (.long hi), .second, .val (.long lo), .second, .unset, .unset] [(.long q4), (.long lo), (.long hi)])) t → Steps p.tables e below (s₁.setTop (entryFrame m #[(.long q1), (.long q2), (.long q3), (.long q4)] 14)) t := by
        intro t kt
        refine K23 t ?_
        show Steps p.tables e below (T7.setTop (mkF m 44 #[.val (.long q1), .second, .val (.long q2), .second, .val (.long q3), .second, .val (.long q4), .second, .val (.long hi), .second, .val (.long lo), .second, .unset, .unset] [(.int (lcmpW sv q4))])) _
        refine XS.ifYes X7.here hx rfl (pc0 := 44) (pc' := 55) rfl (hb hby d6_44) rfl ((if0 _ _).trans (tlt (hd : (lcmpW sv q4) < (0 : Int32))).1) (by decide) (by decide) ?_
        show Steps p.tables e below (T7.setTop (mkF m 55 #[.val (.long q1), .second, .val (.long q2), .second, .val (.long q3), .second, .val (.long q4), .second, .val (.long hi), .second, .val (.long lo), .second, .unset, .unset] [])) _
        refine XS.lload X7.here hx rfl (hb hby d6_55) rfl ?_
        show Steps p.tables e below (T7.setTop (mkF m 57 #[.val (.long q1), .second, .val (.long q2), .second, .val (.long q3), .second, .val (.long q4), .second, .val (.long hi), .second, .val (.long lo), .second, .unset, .unset] [(.long hi)])) _
        refine XS.lload X7.here hx rfl (hb hby d6_57) rfl ?_
        show Steps p.tables e below (T7.setTop (mkF m 59 #[.val (.long q1), .second, .val (.long q2), .second, .val (.long q3), .second, .val (.long q4), .second, .val (.long hi), .second, .val (.long lo), .second, .unset, .unset] [(.long lo), (.long hi)])) _
        refine XS.lload X7.here hx rfl (hb hby d6_59) rfl ?_
        exact kt
      obtain ⟨_, _, ⟨T25, L25, k25, n25⟩, -, X25, ⟨Lc25, hQ25, l25, y25, z25⟩, st25⟩ := Jvm.LawKit.callS X7 hx (y := (⟨"com/example/limtok/limtok/ExactMath", "divideWide", "(JJJ)J"⟩ : MethodName)) hown (mvT hZ (hw _ (List.mem_of_getElem? (i := 33) rfl))) (mvT hZ (hw _ (List.mem_of_getElem? (i := 34) rfl))) (mvT hZ (hw _ (List.mem_of_getElem? (i := 7) rfl))) (mvT hZ (hw _ (List.mem_of_getElem? (i := 35) rfl))) (by decide) (backOf (W := 0) (rm9 l Z a0 hw [] hi lo q4 h0 n0 Z0 (own_dw p1 p2 p3 p4 hP hsv ((lw_lt _ _).mp hd)).1 (own_dw p1 p2 p3 p4 hP hsv ((lw_lt _ _).mp hd)).2) hZ (hw _ (List.mem_of_getElem? (i := 35) rfl)) (hw _ (List.mem_of_getElem? (i := 7) rfl)) (by decide) (by decide)) (g := (mkF m 61 #[.val (.long q1), .second, .val (.long q2), .second, .val (.long q3), .second, .val (.long q4), .second, .val (.long hi), .second, .val (.long lo), .second, .unset, .unset] [(.long q4), (.long lo), (.long hi)])) rfl (by rw [hml]; rfl) (argsL := [(.long hi), (.long lo), (.long q4)]) (rest := []) (lenOf pd_2 rfl) rfl (by show 2 * 0 + _ ≤ _; exact Nat.le_of_eq rfl) (hb hby d6_61) (fun _ _ => ⟨rfl, e7, (by decide : 0 + 0 ≤ _), (by decide : 0 + 0 ≤ _)⟩)
      dsimp only [Pt.U, Pt.locs, Pt.cells, Pt.slots] at X25 l25 y25 z25 st25 hQ25
      subst l25 y25 z25
      obtain ⟨q9, rfl, hq9, Nq25, e25⟩ := hQ25
      have N25 := Fr.app N7 Nq25
      have K26 : ∀ t, Steps p.tables e below (T25.setTop (mkF m 64 #[.val (.long q1), .second, .val (.long q2), .second, .val (.long q3), .second, .val (.long q4), .second, .val (.long hi), .second, .val (.long lo), .second, .unset, .unset] [(.long q9)])) t → Steps p.tables e below (s₁.setTop (entryFrame m #[(.long q1), (.long q2), (.long q3), (.long q4)] 14)) t := fun t kt => K24 t (st25 t kt)
      have K27 : ∀ t, Steps p.tables e below (T25.setTop (mkF m 68 #[.val (.long q1), .second, .val (.long q2), .second, .val (.long q3), .second, .val (.long q4), .second, .val (.long hi), .second, .val (.long lo), .second, .val (.long q9), .second] [(.long q9)])) t → Steps p.tables e below (s₁.setTop (entryFrame m #[(.long q1), (.long q2), (.long q3), (.long q4)] 14)) t := by
        intro t kt
        refine K26 t ?_
        show Steps p.tables e below (T25.setTop (mkF m 64 #[.val (.long q1), .second, .val (.long q2), .second, .val (.long q3), .second, .val (.long q4), .second, .val (.long hi), .second, .val (.long lo), .second, .unset, .unset] [(.long q9)])) _
        refine XS.lstore X25.here hx rfl (hb hby d6_64) rfl (l' := #[.val (.long q1), .second, .val (.long q2), .second, .val (.long q3), .second, .val (.long q4), .second, .val (.long hi), .second, .val (.long lo), .second, .val (.long q9), .second]) rfl ?_
        show Steps p.tables e below (T25.setTop (mkF m 66 #[.val (.long q1), .second, .val (.long q2), .second, .val (.long q3), .second, .val (.long q4), .second, .val (.long hi), .second, .val (.long lo), .second, .val (.long q9), .second] [])) _
        refine XS.lload X25.here hx rfl (hb hby d6_66) rfl ?_
        exact kt
      obtain ⟨fs, hr, hrun, hended, hW, hsame⟩ := X25.leave (v := some (.long q9)) (fun h => by rw [Bd.returns] at h; cases h) (hlocks := hlk)
      refine ⟨_, _, K27 _ ?_, hrun, hended, _, _, rfl, ?_, ⟨_, rfl⟩, hW, hsame.mono (by decide) (by decide)⟩
      · exact retOut X25 hx Bd.returns rfl (Or.inr (Or.inl ⟨rfl, rfl, _, rfl⟩)) (hb hby d6_68) hr
      · show Qrm6 q1 q2 q3 q4 h0 n0 _ T25.heap _
        rw [e25]
        exact ⟨_, rfl, own_mdw p1 p2 p3 p4 hP hsv ((lw_lt _ _).mp hd) hq9, N25, rfl⟩
    · have K28 : ∀ t, Steps p.tables e below (T7.setTop (mkF m 68 #[.val (.long q1), .second, .val (.long q2), .second, .val (.long q3), .second, .val (.long q4), .second, .val (.long hi), .second, .val (.long lo), .second, .val (.long (9223372036854775807 : Int64)), .second] [(.long (9223372036854775807 : Int64))])) t → Steps p.tables e below (s₁.setTop (entryFrame m #[(.long q1), (.long q2), (.long q3), (.long q4)] 14)) t := by
        intro t kt
        refine K23 t ?_
        show Steps p.tables e below (T7.setTop (mkF m 44 #[.val (.long q1), .second, .val (.long q2), .second, .val (.long q3), .second, .val (.long q4), .second, .val (.long hi), .second, .val (.long lo), .second, .unset, .unset] [(.int (lcmpW sv q4))])) _
        refine XS.ifNo X7.here hx rfl (hb hby d6_44) rfl ((if0 _ _).trans (flt (hd : ¬ ((lcmpW sv q4) < (0 : Int32)))).1) ?_
        show Steps p.tables e below (T7.setTop (mkF m 47 #[.val (.long q1), .second, .val (.long q2), .second, .val (.long q3), .second, .val (.long q4), .second, .val (.long hi), .second, .val (.long lo), .second, .unset, .unset] [])) _
        refine X7.ldc2Long hx hown (mvT hZ (hw _ (List.mem_of_getElem? (i := 36) rfl))) (g := (mkF m 47 #[.val (.long q1), .second, .val (.long q2), .second, .val (.long q3), .second, .val (.long q4), .second, .val (.long hi), .second, .val (.long lo), .second, .unset, .unset] [])) rfl (hb hby d6_47) _ ?_
        show Steps p.tables e below (T7.setTop (mkF m 50 #[.val (.long q1), .second, .val (.long q2), .second, .val (.long q3), .second, .val (.long q4), .second, .val (.long hi), .second, .val (.long lo), .second, .unset, .unset] [(.long (9223372036854775807 : Int64))])) _
        refine XS.lstore X7.here hx rfl (hb hby d6_50) rfl (l' := #[.val (.long q1), .second, .val (.long q2), .second, .val (.long q3), .second, .val (.long q4), .second, .val (.long hi), .second, .val (.long lo), .second, .val (.long (9223372036854775807 : Int64)), .second]) rfl ?_
        show Steps p.tables e below (T7.setTop (mkF m 52 #[.val (.long q1), .second, .val (.long q2), .second, .val (.long q3), .second, .val (.long q4), .second, .val (.long hi), .second, .val (.long lo), .second, .val (.long (9223372036854775807 : Int64)), .second] [])) _
        refine XS.goto X7.here hx rfl (pc0 := 52) (pc' := 66) rfl (hb hby d6_52) (by decide) (by decide) ?_
        show Steps p.tables e below (T7.setTop (mkF m 66 #[.val (.long q1), .second, .val (.long q2), .second, .val (.long q3), .second, .val (.long q4), .second, .val (.long hi), .second, .val (.long lo), .second, .val (.long (9223372036854775807 : Int64)), .second] [])) _
        refine XS.lload X7.here hx rfl (hb hby d6_66) rfl ?_
        exact kt
      obtain ⟨fs, hr, hrun, hended, hW, hsame⟩ := X7.leave (v := some (.long (9223372036854775807 : Int64))) (fun h => by rw [Bd.returns] at h; cases h) (hlocks := hlk)
      refine ⟨_, _, K28 _ ?_, hrun, hended, _, _, rfl, ?_, ⟨_, rfl⟩, hW, hsame.mono (by decide) (by decide)⟩
      · exact retOut X7 hx Bd.returns rfl (Or.inr (Or.inl ⟨rfl, rfl, _, rfl⟩)) (hb hby d6_68) hr
      · show Qrm6 q1 q2 q3 q4 h0 n0 _ T7.heap _
        rw [e7]
        exact ⟨_, rfl, own_mdmax p1 p2 p3 p4 hP hsv (fun z => hd ((lw_lt _ _).mpr z)), N7, rfl⟩
theorem ef_rm2 (m : MethodId) (x0 : Int64) (x1 : Int64) (x2 : Int64) (x3 : Int64) : entryFrame m #[(.long x0), (.long x1), (.long x2), (.long x3)] 14 = mkF m 0 #[.val (.long x0), .second, .val (.long x1), .second, .val (.long x2), .second, .val (.long x3), .second, .unset, .unset, .unset, .unset, .unset, .unset] [] := by first | (simp [entryFrame, mkF, argsToLocals, Value.category]; done) | rfl
def Qrm2 (q1 q2 q3 q4 : Int64) (h0 : Heap) (n0 : Nat) (v : Option Value) (h : Heap) (L : List Loc) : Prop := ∃ r : Int64, v = some (.long r) ∧ MD q1 q2 q3 q4 r ∧ Fr n0 L ∧ h = h0
set_option maxRecDepth 65536 in
set_option maxHeartbeats 40000000 in
theorem rm2 (l : Launch) (Z : State) (a0 : Array Value) (hw : ∀ d ∈ tables_1, d.before a0 Z = true) (ws : List Jvm.Cond) (q1 q2 q3 q4 : Int64) (h0 : Heap) (n0 : Nat) (Z0 : n0 ≤ h0.size) (p1 : 0 ≤ q1.toInt) (p2 : 0 ≤ q2.toInt) (p3 : 0 ≤ q3.toInt) (p4 : 1 ≤ q4.toInt) :
    MetFree l (⟨"com/example/limtok/limtok/ExactMath", "multiplyDivide", "(JJJJ)J"⟩ : MethodName) (head1 (Jvm.Cond.code (⟨"com/example/limtok/limtok/ExactMath", "multiplyDivide", "(JJJJ)J"⟩ : MethodName) prog_23_method_2_code 14 (some .long) :: ws) ({ frames := 4, cells := 0, slots := 0, locals := 77 } : Room)) (fun a U => a = #[(.long q1), (.long q2), (.long q3), (.long q4)] ∧ Z.Warmed39 U.vm ∧ U.heap = h0) (fun _ _ _ _ _ => True) (fun _ U o U' => ∃ v L, o = .returned v ∧ Qrm2 q1 q2 q3 q4 h0 n0 v U'.heap L ∧ FrameEnd U o U' L ({ frames := 4, cells := 0, slots := 0, locals := 77 } : Room).cells ({ frames := 4, cells := 0, slots := 0, locals := 77 } : Room).slots) := by
  refine MetFree.of_bodySF (plainFor_of_name pn_2) hisR ?_
  intro p e s m args below meth c s₁ Bd hml0 hP hK
  obtain ⟨rfl, hZ, hh⟩ := hP
  have hx := Bd.exec
  have hlk : meth.locks = false := BodyLoose.notSynchronized Bd
  have hby := Bd.bytes
  have hml : c.maxLocals = 14 := hml0
  have hown : s.vm.findClass "com/example/limtok/limtok/ExactMath" = some m.cls := findClass_of_methodNamed Bd.named
  have hnm := (name_of_methodNamed Bd.named Bd.method).1
  have X0 : Stand p l e ({ frames := 4, cells := 0, slots := 0, locals := 77 } : Room) s m #[(.long q1), (.long q2), (.long q3), (.long q4)] below meth c s₁ [] 0 0 := Stand.of_body Bd
  have e0 : s₁.heap = h0 := by rw [← hh, Bd.state]; rfl
  have N0 := Fr.nil n0
  have K0 : ∀ t, Steps p.tables e below (s₁.setTop (mkF m 0 #[.val (.long q1), .second, .val (.long q2), .second, .val (.long q3), .second, .val (.long q4), .second, .unset, .unset, .unset, .unset, .unset, .unset] [])) t → Steps p.tables e below (s₁.setTop (entryFrame m #[(.long q1), (.long q2), (.long q3), (.long q4)] 14)) t := fun t k => castTop (ef_rm2 m q1 q2 q3 q4) k
  have K1 : ∀ t, Steps p.tables e below (s₁.setTop (mkF m 3 #[.val (.long q1), .second, .val (.long q2), .second, .val (.long q3), .second, .val (.long q4), .second, .unset, .unset, .unset, .unset, .unset, .unset] [(.long (q1 * q2))])) t → Steps p.tables e below (s₁.setTop (entryFrame m #[(.long q1), (.long q2), (.long q3), (.long q4)] 14)) t := by
    intro t kt
    refine K0 t ?_
    show Steps p.tables e below (s₁.setTop (mkF m 0 #[.val (.long q1), .second, .val (.long q2), .second, .val (.long q3), .second, .val (.long q4), .second, .unset, .unset, .unset, .unset, .unset, .unset] [])) _
    refine XS.lloadN X0.here hx rfl (hb hby d2_0) rfl ?_
    show Steps p.tables e below (s₁.setTop (mkF m 1 #[.val (.long q1), .second, .val (.long q2), .second, .val (.long q3), .second, .val (.long q4), .second, .unset, .unset, .unset, .unset, .unset, .unset] [(.long q1)])) _
    refine XS.lloadN X0.here hx rfl (hb hby d2_1) rfl ?_
    show Steps p.tables e below (s₁.setTop (mkF m 2 #[.val (.long q1), .second, .val (.long q2), .second, .val (.long q3), .second, .val (.long q4), .second, .unset, .unset, .unset, .unset, .unset, .unset] [(.long q2), (.long q1)])) _
    refine XS.lmul X0.here hx rfl (hb hby d2_2) rfl ?_
    exact kt
  obtain ⟨pr, hpr⟩ : ∃ z : Int64, z = (q1 * q2) := ⟨_, rfl⟩
  have K2 : ∀ t, Steps p.tables e below (s₁.setTop (mkF m 3 #[.val (.long q1), .second, .val (.long q2), .second, .val (.long q3), .second, .val (.long q4), .second, .unset, .unset, .unset, .unset, .unset, .unset] [(.long pr)])) t → Steps p.tables e below (s₁.setTop (entryFrame m #[(.long q1), (.long q2), (.long q3), (.long q4)] 14)) t := by
    rw [hpr]; exact K1
  have K3 : ∀ t, Steps p.tables e below (s₁.setTop (mkF m 10 #[.val (.long q1), .second, .val (.long q2), .second, .val (.long q3), .second, .val (.long q4), .second, .val (.long pr), .second, .unset, .unset, .unset, .unset] [(.long (pr + q3))])) t → Steps p.tables e below (s₁.setTop (entryFrame m #[(.long q1), (.long q2), (.long q3), (.long q4)] 14)) t := by
    intro t kt
    refine K2 t ?_
    show Steps p.tables e below (s₁.setTop (mkF m 3 #[.val (.long q1), .second, .val (.long q2), .second, .val (.long q3), .second, .val (.long q4), .second, .unset, .unset, .unset, .unset, .unset, .unset] [(.long pr)])) _
    refine XS.lstore X0.here hx rfl (hb hby d2_3) rfl (l' := #[.val (.long q1), .second, .val (.long q2), .second, .val (.long q3), .second, .val (.long q4), .second, .val (.long pr), .second, .unset, .unset, .unset, .unset]) rfl ?_
    show Steps p.tables e below (s₁.setTop (mkF m 5 #[.val (.long q1), .second, .val (.long q2), .second, .val (.long q3), .second, .val (.long q4), .second, .val (.long pr), .second, .unset, .unset, .unset, .unset] [])) _
    refine XS.lload X0.here hx rfl (hb hby d2_5) rfl ?_
    show Steps p.tables e below (s₁.setTop (mkF m 7 #[.val (.long q1), .second, .val (.long q2), .second, .val (.long q3), .second, .val (.long q4), .second, .val (.long pr), .second, .unset, .unset, .unset, .unset] [(.long pr)])) _
    refine XS.lload X0.here hx rfl (hb hby d2_7) rfl ?_
    show Steps p.tables e below (s₁.setTop (mkF m 9 #[.val (.long q1), .second, .val (.long q2), .second, .val (.long q3), .second, .val (.long q4), .second, .val (.long pr), .second, .unset, .unset, .unset, .unset] [(.long q3), (.long pr)])) _
    refine XS.ladd X0.here hx rfl (hb hby d2_9) rfl ?_
    exact kt
  obtain ⟨sm, hsm⟩ : ∃ z : Int64, z = (pr + q3) := ⟨_, rfl⟩
  have K4 : ∀ t, Steps p.tables e below (s₁.setTop (mkF m 10 #[.val (.long q1), .second, .val (.long q2), .second, .val (.long q3), .second, .val (.long q4), .second, .val (.long pr), .second, .unset, .unset, .unset, .unset] [(.long sm)])) t → Steps p.tables e below (s₁.setTop (entryFrame m #[(.long q1), (.long q2), (.long q3), (.long q4)] 14)) t := by
    rw [hsm]; exact K3
  have K5 : ∀ t, Steps p.tables e below (s₁.setTop (mkF m 14 #[.val (.long q1), .second, .val (.long q2), .second, .val (.long q3), .second, .val (.long q4), .second, .val (.long pr), .second, .val (.long sm), .second, .unset, .unset] [(.long q2), (.long q1)])) t → Steps p.tables e below (s₁.setTop (entryFrame m #[(.long q1), (.long q2), (.long q3), (.long q4)] 14)) t := by
    intro t kt
    refine K4 t ?_
    show Steps p.tables e below (s₁.setTop (mkF m 10 #[.val (.long q1), .second, .val (.long q2), .second, .val (.long q3), .second, .val (.long q4), .second, .val (.long pr), .second, .unset, .unset, .unset, .unset] [(.long sm)])) _
    refine XS.lstore X0.here hx rfl (hb hby d2_10) rfl (l' := #[.val (.long q1), .second, .val (.long q2), .second, .val (.long q3), .second, .val (.long q4), .second, .val (.long pr), .second, .val (.long sm), .second, .unset, .unset]) rfl ?_
    show Steps p.tables e below (s₁.setTop (mkF m 12 #[.val (.long q1), .second, .val (.long q2), .second, .val (.long q3), .second, .val (.long q4), .second, .val (.long pr), .second, .val (.long sm), .second, .unset, .unset] [])) _
    refine XS.lloadN X0.here hx rfl (hb hby d2_12) rfl ?_
    show Steps p.tables e below (s₁.setTop (mkF m 13 #[.val (.long q1), .second, .val (.long q2), .second, .val (.long q3), .second, .val (.long q4), .second, .val (.long pr), .second, .val (.long sm), .second, .unset, .unset] [(.long q1)])) _
    refine XS.lloadN X0.here hx rfl (hb hby d2_13) rfl ?_
    exact kt
  obtain ⟨_, _, ⟨T6, L6, k6, n6⟩, -, X6, ⟨Lc6, hQ6, l6, y6, z6⟩, st6⟩ := Jvm.LawKit.callS X0 hx (y := (⟨"java/lang/Math", "multiplyHigh", "(JJ)J"⟩ : MethodName)) hown (mvT hZ (hw _ (List.mem_of_getElem? (i := 9) rfl))) (mvT hZ (hw _ (List.mem_of_getElem? (i := 10) rfl))) (mvT hZ (hw _ (List.mem_of_getElem? (i := 3) rfl))) (mvT hZ (hw _ (List.mem_of_getElem? (i := 11) rfl))) (by decide) (backOf (W := 0) (rm3 l Z a0 hw [] q1 q2 h0 n0 Z0 p1 p2) hZ (hw _ (List.mem_of_getElem? (i := 11) rfl)) (hw _ (List.mem_of_getElem? (i := 3) rfl)) (by decide) (by decide)) (g := (mkF m 14 #[.val (.long q1), .second, .val (.long q2), .second, .val (.long q3), .second, .val (.long q4), .second, .val (.long pr), .second, .val (.long sm), .second, .unset, .unset] [(.long q2), (.long q1)])) rfl (by rw [hml]; rfl) (argsL := [(.long q1), (.long q2)]) (rest := []) (lenOf pd_1 rfl) rfl (by show 2 * 0 + _ ≤ _; exact Nat.le_of_eq rfl) (hb hby d2_14) (fun _ _ => ⟨rfl, e0, (by decide : 0 + 0 ≤ _), (by decide : 0 + 0 ≤ _)⟩)
  dsimp only [Pt.U, Pt.locs, Pt.cells, Pt.slots] at X6 l6 y6 z6 st6 hQ6
  subst l6 y6 z6
  obtain ⟨hi, rfl, hhi, Nq6, e6⟩ := hQ6
  have N6 := Fr.app N0 Nq6
  have K7 : ∀ t, Steps p.tables e below (T6.setTop (mkF m 17 #[.val (.long q1), .second, .val (.long q2), .second, .val (.long q3), .second, .val (.long q4), .second, .val (.long pr), .second, .val (.long sm), .second, .unset, .unset] [(.long hi)])) t → Steps p.tables e below (s₁.setTop (entryFrame m #[(.long q1), (.long q2), (.long q3), (.long q4)] 14)) t := fun t kt => K5 t (st6 t kt)
  have K8 : ∀ t, Steps p.tables e below (T6.setTop (mkF m 19 #[.val (.long q1), .second, .val (.long q2), .second, .val (.long q3), .second, .val (.long q4), .second, .val (.long pr), .second, .val (.long sm), .second, .unset, .unset] [(.int (lcmpW hi (0 : Int64)))])) t → Steps p.tables e below (s₁.setTop (entryFrame m #[(.long q1), (.long q2), (.long q3), (.long q4)] 14)) t := by
    intro t kt
    refine K7 t ?_
    show Steps p.tables e below (T6.setTop (mkF m 17 #[.val (.long q1), .second, .val (.long q2), .second, .val (.long q3), .second, .val (.long q4), .second, .val (.long pr), .second, .val (.long sm), .second, .unset, .unset] [(.long hi)])) _
    refine XS.lconst X6.here hx rfl (hb hby d2_17) ?_
    show Steps p.tables e below (T6.setTop (mkF m 18 #[.val (.long q1), .second, .val (.long q2), .second, .val (.long q3), .second, .val (.long q4), .second, .val (.long pr), .second, .val (.long sm), .second, .unset, .unset] [(.long (0 : Int64)), (.long hi)])) _
    refine XS.lcmp X6.here hx rfl (hb hby d2_18) rfl ?_
    exact kt
  by_cases h1 : (lcmpW hi (0 : Int64)) = (0 : Int32)
  · have K9 : ∀ t, Steps p.tables e below (T6.setTop (mkF m 26 #[.val (.long q1), .second, .val (.long q2), .second, .val (.long q3), .second, .val (.long q4), .second, .val (.long pr), .second, .val (.long sm), .second, .unset, .unset] [(.int (lcmpW pr (0 : Int64)))])) t → Steps p.tables e below (s₁.setTop (entryFrame m #[(.long q1), (.long q2), (.long q3), (.long q4)] 14)) t := by
      intro t kt
      refine K8 t ?_
      show Steps p.tables e below (T6.setTop (mkF m 19 #[.val (.long q1), .second, .val (.long q2), .second, .val (.long q3), .second, .val (.long q4), .second, .val (.long pr), .second, .val (.long sm), .second, .unset, .unset] [(.int (lcmpW hi (0 : Int64)))])) _
      refine XS.ifNo X6.here hx rfl (hb hby d2_19) rfl ((if0 _ _).trans (teq (h1 : (lcmpW hi (0 : Int64)) = (0 : Int32))).2) ?_
      show Steps p.tables e below (T6.setTop (mkF m 22 #[.val (.long q1), .second, .val (.long q2), .second, .val (.long q3), .second, .val (.long q4), .second, .val (.long pr), .second, .val (.long sm), .second, .unset, .unset] [])) _
      refine XS.lload X6.here hx rfl (hb hby d2_22) rfl ?_
      show Steps p.tables e below (T6.setTop (mkF m 24 #[.val (.long q1), .second, .val (.long q2), .second, .val (.long q3), .second, .val (.long q4), .second, .val (.long pr), .second, .val (.long sm), .second, .unset, .unset] [(.long pr)])) _
      refine XS.lconst X6.here hx rfl (hb hby d2_24) ?_
      show Steps p.tables e below (T6.setTop (mkF m 25 #[.val (.long q1), .second, .val (.long q2), .second, .val (.long q3), .second, .val (.long q4), .second, .val (.long pr), .second, .val (.long sm), .second, .unset, .unset] [(.long (0 : Int64)), (.long pr)])) _
      refine XS.lcmp X6.here hx rfl (hb hby d2_25) rfl ?_
      exact kt
    by_cases h2 : (lcmpW pr (0 : Int64)) < (0 : Int32)
    · have K10 : ∀ t, Steps p.tables e below (T6.setTop (mkF m 64 #[.val (.long q1), .second, .val (.long q2), .second, .val (.long q3), .second, .val (.long q4), .second, .val (.long pr), .second, .val (.long sm), .second, .unset, .unset] [(.long q4), (.long q3), (.long q2), (.long q1)])) t → Steps p.tables e below (s₁.setTop (entryFrame m #[(.long q1), (.long q2), (.long q3), (.long q4)] 14)) t := by
        intro t kt
        refine K9 t ?_
        show Steps p.tables e below (T6.setTop (mkF m 26 #[.val (.long q1), .second, .val (.long q2), .second, .val (.long q3), .second, .val (.long q4), .second, .val (.long pr), .second, .val (.long sm), .second, .unset, .unset] [(.int (lcmpW pr (0 : Int64)))])) _
        refine XS.ifYes X6.here hx rfl (pc0 := 26) (pc' := 58) rfl (hb hby d2_26) rfl ((if0 _ _).trans (tlt (h2 : (lcmpW pr (0 : Int64)) < (0 : Int32))).1) (by decide) (by decide) ?_
        show Steps p.tables e below (T6.setTop (mkF m 58 #[.val (.long q1), .second, .val (.long q2), .second, .val (.long q3), .second, .val (.long q4), .second, .val (.long pr), .second, .val (.long sm), .second, .unset, .unset] [])) _
        refine XS.lloadN X6.here hx rfl (hb hby d2_58) rfl ?_
        show Steps p.tables e below (T6.setTop (mkF m 59 #[.val (.long q1), .second, .val (.long q2), .second, .val (.long q3), .second, .val (.long q4), .second, .val (.long pr), .second, .val (.long sm), .second, .unset, .unset] [(.long q1)])) _
        refine XS.lloadN X6.here hx rfl (hb hby d2_59) rfl ?_
        show Steps p.tables e below (T6.setTop (mkF m 60 #[.val (.long q1), .second, .val (.long q2), .second, .val (.long q3), .second, .val (.long q4), .second, .val (.long pr), .second, .val (.long sm), .second, .unset, .unset] [(.long q2), (.long q1)])) _
        refine XS.lload X6.here hx rfl (hb hby d2_60) rfl ?_
        show Steps p.tables e below (T6.setTop (mkF m 62 #[.val (.long q1), .second, .val (.long q2), .second, .val (.long q3), .second, .val (.long q4), .second, .val (.long pr), .second, .val (.long sm), .second, .unset, .unset] [(.long q3), (.long q2), (.long q1)])) _
        refine XS.lload X6.here hx rfl (hb hby d2_62) rfl ?_
        exact kt
      obtain ⟨_, _, ⟨T11, L11, k11, n11⟩, -, X11, ⟨Lc11, hQ11, l11, y11, z11⟩, st11⟩ := Jvm.LawKit.callS X6 hx (y := (⟨"com/example/limtok/limtok/ExactMath", "multiplyDivideWide", "(JJJJ)J"⟩ : MethodName)) hown (mvT hZ (hw _ (List.mem_of_getElem? (i := 22) rfl))) (mvT hZ (hw _ (List.mem_of_getElem? (i := 23) rfl))) (mvT hZ (hw _ (List.mem_of_getElem? (i := 7) rfl))) (mvT hZ (hw _ (List.mem_of_getElem? (i := 24) rfl))) (by decide) (backOf (W := 0) (rm6 l Z a0 hw [] q1 q2 q3 q4 h0 n0 Z0 p1 p2 p3 p4) hZ (hw _ (List.mem_of_getElem? (i := 24) rfl)) (hw _ (List.mem_of_getElem? (i := 7) rfl)) (by decide) (by decide)) (g := (mkF m 64 #[.val (.long q1), .second, .val (.long q2), .second, .val (.long q3), .second, .val (.long q4), .second, .val (.long pr), .second, .val (.long sm), .second, .unset, .unset] [(.long q4), (.long q3), (.long q2), (.long q1)])) rfl (by rw [hml]; rfl) (argsL := [(.long q1), (.long q2), (.long q3), (.long q4)]) (rest := []) (lenOf pd_3 rfl) rfl (by show 2 * 0 + _ ≤ _; exact Nat.le_of_eq rfl) (hb hby d2_64) (fun _ _ => ⟨rfl, e6, (by decide : 0 + 0 ≤ _), (by decide : 0 + 0 ≤ _)⟩)
      dsimp only [Pt.U, Pt.locs, Pt.cells, Pt.slots] at X11 l11 y11 z11 st11 hQ11
      subst l11 y11 z11
      obtain ⟨q9, rfl, hq9, Nq11, e11⟩ := hQ11
      have N11 := Fr.app N6 Nq11
      have K12 : ∀ t, Steps p.tables e below (T11.setTop (mkF m 67 #[.val (.long q1), .second, .val (.long q2), .second, .val (.long q3), .second, .val (.long q4), .second, .val (.long pr), .second, .val (.long sm), .second, .unset, .unset] [(.long q9)])) t → Steps p.tables e below (s₁.setTop (entryFrame m #[(.long q1), (.long q2), (.long q3), (.long q4)] 14)) t := fun t kt => K10 t (st11 t kt)
      have K13 : ∀ t, Steps p.tables e below (T11.setTop (mkF m 71 #[.val (.long q1), .second, .val (.long q2), .second, .val (.long q3), .second, .val (.long q4), .second, .val (.long pr), .second, .val (.long sm), .second, .val (.long q9), .second] [(.long q9)])) t → Steps p.tables e below (s₁.setTop (entryFrame m #[(.long q1), (.long q2), (.long q3), (.long q4)] 14)) t := by
        intro t kt
        refine K12 t ?_
        show Steps p.tables e below (T11.setTop (mkF m 67 #[.val (.long q1), .second, .val (.long q2), .second, .val (.long q3), .second, .val (.long q4), .second, .val (.long pr), .second, .val (.long sm), .second, .unset, .unset] [(.long q9)])) _
        refine XS.lstore X11.here hx rfl (hb hby d2_67) rfl (l' := #[.val (.long q1), .second, .val (.long q2), .second, .val (.long q3), .second, .val (.long q4), .second, .val (.long pr), .second, .val (.long sm), .second, .val (.long q9), .second]) rfl ?_
        show Steps p.tables e below (T11.setTop (mkF m 69 #[.val (.long q1), .second, .val (.long q2), .second, .val (.long q3), .second, .val (.long q4), .second, .val (.long pr), .second, .val (.long sm), .second, .val (.long q9), .second] [])) _
        refine XS.lload X11.here hx rfl (hb hby d2_69) rfl ?_
        exact kt
      obtain ⟨fs, hr, hrun, hended, hW, hsame⟩ := X11.leave (v := some (.long q9)) (fun h => by rw [Bd.returns] at h; cases h) (hlocks := hlk)
      refine ⟨_, _, K13 _ ?_, hrun, hended, _, _, rfl, ?_, ⟨_, rfl⟩, hW, hsame.mono (by decide) (by decide)⟩
      · exact retOut X11 hx Bd.returns rfl (Or.inr (Or.inl ⟨rfl, rfl, _, rfl⟩)) (hb hby d2_71) hr
      · show Qrm2 q1 q2 q3 q4 h0 n0 _ T11.heap _
        rw [e11]
        exact ⟨_, rfl, hq9, N11, rfl⟩
    · have K14 : ∀ t, Steps p.tables e below (T6.setTop (mkF m 33 #[.val (.long q1), .second, .val (.long q2), .second, .val (.long q3), .second, .val (.long q4), .second, .val (.long pr), .second, .val (.long sm), .second, .unset, .unset] [(.int (lcmpW sm (0 : Int64)))])) t → Steps p.tables e below (s₁.setTop (entryFrame m #[(.long q1), (.long q2), (.long q3), (.long q4)] 14)) t := by
        intro t kt
        refine K9 t ?_
        show Steps p.tables e below (T6.setTop (mkF m 26 #[.val (.long q1), .second, .val (.long q2), .second, .val (.long q3), .second, .val (.long q4), .second, .val (.long pr), .second, .val (.long sm), .second, .unset, .unset] [(.int (lcmpW pr (0 : Int64)))])) _
        refine XS.ifNo X6.here hx rfl (hb hby d2_26) rfl ((if0 _ _).trans (flt (h2 : ¬ ((lcmpW pr (0 : Int64)) < (0 : Int32)))).1) ?_
        show Steps p.tables e below (T6.setTop (mkF m 29 #[.val (.long q1), .second, .val (.long q2), .second, .val (.long q3), .second, .val (.long q4), .second, .val (.long pr), .second, .val (.long sm), .second, .unset, .unset] [])) _
        refine XS.lload X6.here hx rfl (hb hby d2_29) rfl ?_
        show Steps p.tables e below (T6.setTop (mkF m 31 #[.val (.long q1), .second, .val (.long q2), .second, .val (.long q3), .second, .val (.long q4), .second, .val (.long pr), .second, .val (.long sm), .second, .unset, .unset] [(.long sm)])) _
        refine XS.lconst X6.here hx rfl (hb hby d2_31) ?_
        show Steps p.tables e below (T6.setTop (mkF m 32 #[.val (.long q1), .second, .val (.long q2), .second, .val (.long q3), .second, .val (.long q4), .second, .val (.long pr), .second, .val (.long sm), .second, .unset, .unset] [(.long (0 : Int64)), (.long sm)])) _
        refine XS.lcmp X6.here hx rfl (hb hby d2_32) rfl ?_
        exact kt
      by_cases h3 : (lcmpW sm (0 : Int64)) < (0 : Int32)
      · have K15 : ∀ t, Steps p.tables e below (T6.setTop (mkF m 64 #[.val (.long q1), .second, .val (.long q2), .second, .val (.long q3), .second, .val (.long q4), .second, .val (.long pr), .second, .val (.long sm), .second, .unset, .unset] [(.long q4), (.long q3), (.long q2), (.long q1)])) t → Steps p.tables e below (s₁.setTop (entryFrame m #[(.long q1), (.long q2), (.long q3), (.long q4)] 14)) t := by
          intro t kt
          refine K14 t ?_
          show Steps p.tables e below (T6.setTop (mkF m 33 #[.val (.long q1), .second, .val (.long q2), .second, .val (.long q3), .second, .val (.long q4), .second, .val (.long pr), .second, .val (.long sm), .second, .unset, .unset] [(.int (lcmpW sm (0 : Int64)))])) _
          refine XS.ifYes X6.here hx rfl (pc0 := 33) (pc' := 58) rfl (hb hby d2_33) rfl ((if0 _ _).trans (tlt (h3 : (lcmpW sm (0 : Int64)) < (0 : Int32))).1) (by decide) (by decide) ?_
          show Steps p.tables e below (T6.setTop (mkF m 58 #[.val (.long q1), .second, .val (.long q2), .second, .val (.long q3), .second, .val (.long q4), .second, .val (.long pr), .second, .val (.long sm), .second, .unset, .unset] [])) _
          refine XS.lloadN X6.here hx rfl (hb hby d2_58) rfl ?_
          show Steps p.tables e below (T6.setTop (mkF m 59 #[.val (.long q1), .second, .val (.long q2), .second, .val (.long q3), .second, .val (.long q4), .second, .val (.long pr), .second, .val (.long sm), .second, .unset, .unset] [(.long q1)])) _
          refine XS.lloadN X6.here hx rfl (hb hby d2_59) rfl ?_
          show Steps p.tables e below (T6.setTop (mkF m 60 #[.val (.long q1), .second, .val (.long q2), .second, .val (.long q3), .second, .val (.long q4), .second, .val (.long pr), .second, .val (.long sm), .second, .unset, .unset] [(.long q2), (.long q1)])) _
          refine XS.lload X6.here hx rfl (hb hby d2_60) rfl ?_
          show Steps p.tables e below (T6.setTop (mkF m 62 #[.val (.long q1), .second, .val (.long q2), .second, .val (.long q3), .second, .val (.long q4), .second, .val (.long pr), .second, .val (.long sm), .second, .unset, .unset] [(.long q3), (.long q2), (.long q1)])) _
          refine XS.lload X6.here hx rfl (hb hby d2_62) rfl ?_
          exact kt
        obtain ⟨_, _, ⟨T16, L16, k16, n16⟩, -, X16, ⟨Lc16, hQ16, l16, y16, z16⟩, st16⟩ := Jvm.LawKit.callS X6 hx (y := (⟨"com/example/limtok/limtok/ExactMath", "multiplyDivideWide", "(JJJJ)J"⟩ : MethodName)) hown (mvT hZ (hw _ (List.mem_of_getElem? (i := 22) rfl))) (mvT hZ (hw _ (List.mem_of_getElem? (i := 23) rfl))) (mvT hZ (hw _ (List.mem_of_getElem? (i := 7) rfl))) (mvT hZ (hw _ (List.mem_of_getElem? (i := 24) rfl))) (by decide) (backOf (W := 0) (rm6 l Z a0 hw [] q1 q2 q3 q4 h0 n0 Z0 p1 p2 p3 p4) hZ (hw _ (List.mem_of_getElem? (i := 24) rfl)) (hw _ (List.mem_of_getElem? (i := 7) rfl)) (by decide) (by decide)) (g := (mkF m 64 #[.val (.long q1), .second, .val (.long q2), .second, .val (.long q3), .second, .val (.long q4), .second, .val (.long pr), .second, .val (.long sm), .second, .unset, .unset] [(.long q4), (.long q3), (.long q2), (.long q1)])) rfl (by rw [hml]; rfl) (argsL := [(.long q1), (.long q2), (.long q3), (.long q4)]) (rest := []) (lenOf pd_3 rfl) rfl (by show 2 * 0 + _ ≤ _; exact Nat.le_of_eq rfl) (hb hby d2_64) (fun _ _ => ⟨rfl, e6, (by decide : 0 + 0 ≤ _), (by decide : 0 + 0 ≤ _)⟩)
        dsimp only [Pt.U, Pt.locs, Pt.cells, Pt.slots] at X16 l16 y16 z16 st16 hQ16
        subst l16 y16 z16
        obtain ⟨q9, rfl, hq9, Nq16, e16⟩ := hQ16
        have N16 := Fr.app N6 Nq16
        have K17 : ∀ t, Steps p.tables e below (T16.setTop (mkF m 67 #[.val (.long q1), .second, .val (.long q2), .second, .val (.long q3), .second, .val (.long q4), .second, .val (.long pr), .second, .val (.long sm), .second, .unset, .unset] [(.long q9)])) t → Steps p.tables e below (s₁.setTop (entryFrame m #[(.long q1), (.long q2), (.long q3), (.long q4)] 14)) t := fun t kt => K15 t (st16 t kt)
        have K18 : ∀ t, Steps p.tables e below (T16.setTop (mkF m 71 #[.val (.long q1), .second, .val (.long q2), .second, .val (.long q3), .second, .val (.long q4), .second, .val (.long pr), .second, .val (.long sm), .second, .val (.long q9), .second] [(.long q9)])) t → Steps p.tables e below (s₁.setTop (entryFrame m #[(.long q1), (.long q2), (.long q3), (.long q4)] 14)) t := by
          intro t kt
          refine K17 t ?_
          show Steps p.tables e below (T16.setTop (mkF m 67 #[.val (.long q1), .second, .val (.long q2), .second, .val (.long q3), .second, .val (.long q4), .second, .val (.long pr), .second, .val (.long sm), .second, .unset, .unset] [(.long q9)])) _
          refine XS.lstore X16.here hx rfl (hb hby d2_67) rfl (l' := #[.val (.long q1), .second, .val (.long q2), .second, .val (.long q3), .second, .val (.long q4), .second, .val (.long pr), .second, .val (.long sm), .second, .val (.long q9), .second]) rfl ?_
          show Steps p.tables e below (T16.setTop (mkF m 69 #[.val (.long q1), .second, .val (.long q2), .second, .val (.long q3), .second, .val (.long q4), .second, .val (.long pr), .second, .val (.long sm), .second, .val (.long q9), .second] [])) _
          refine XS.lload X16.here hx rfl (hb hby d2_69) rfl ?_
          exact kt
        obtain ⟨fs, hr, hrun, hended, hW, hsame⟩ := X16.leave (v := some (.long q9)) (fun h => by rw [Bd.returns] at h; cases h) (hlocks := hlk)
        refine ⟨_, _, K18 _ ?_, hrun, hended, _, _, rfl, ?_, ⟨_, rfl⟩, hW, hsame.mono (by decide) (by decide)⟩
        · exact retOut X16 hx Bd.returns rfl (Or.inr (Or.inl ⟨rfl, rfl, _, rfl⟩)) (hb hby d2_71) hr
        · show Qrm2 q1 q2 q3 q4 h0 n0 _ T16.heap _
          rw [e16]
          exact ⟨_, rfl, hq9, N16, rfl⟩
      · have K19 : ∀ t, Steps p.tables e below (T6.setTop (mkF m 36 #[.val (.long q1), .second, .val (.long q2), .second, .val (.long q3), .second, .val (.long q4), .second, .val (.long pr), .second, .val (.long sm), .second, .unset, .unset] [])) t → Steps p.tables e below (s₁.setTop (entryFrame m #[(.long q1), (.long q2), (.long q3), (.long q4)] 14)) t := by
          intro t kt
          refine K14 t ?_
          show Steps p.tables e below (T6.setTop (mkF m 33 #[.val (.long q1), .second, .val (.long q2), .second, .val (.long q3), .second, .val (.long q4), .second, .val (.long pr), .second, .val (.long sm), .second, .unset, .unset] [(.int (lcmpW sm (0 : Int64)))])) _
          refine XS.ifNo X6.here hx rfl (hb hby d2_33) rfl ((if0 _ _).trans (flt (h3 : ¬ ((lcmpW sm (0 : Int64)) < (0 : Int32)))).1) ?_
          exact kt
        have hS := own_small p1 p2 p3 hhi hpr hsm ((lw_eq _ _).mp h1) (fun z => h2 ((lw_lt _ _).mpr z)) (fun z => h3 ((lw_lt _ _).mpr z))
        have K20 : ∀ t, Steps p.tables e below (T6.setTop (mkF m 41 #[.val (.long q1), .second, .val (.long q2), .second, .val (.long q3), .second, .val (.long q4), .second, .val (.long pr), .second, .val (.long sm), .second, .unset, .unset] [(.int (lcmpW sm q4))])) t → Steps p.tables e below (s₁.setTop (entryFrame m #[(.long q1), (.long q2), (.long q3), (.long q4)] 14)) t := by
          intro t kt
          refine K19 t ?_
          show Steps p.tables e below (T6.setTop (mkF m 36 #[.val (.long q1), .second, .val (.long q2), .second, .val (.long q3), .second, .val (.long q4), .second, .val (.long pr), .second, .val (.long sm), .second, .unset, .unset] [])) _
          refine XS.lload X6.here hx rfl (hb hby d2_36) rfl ?_
          show Steps p.tables e below (T6.setTop (mkF m 38 #[.val (.long q1), .second, .val (.long q2), .second, .val (.long q3), .second, .val (.long q4), .second, .val (.long pr), .second, .val (.long sm), .second, .unset, .unset] [(.long sm)])) _
          refine XS.lload X6.here hx rfl (hb hby d2_38) rfl ?_
          show Steps p.tables e below (T6.setTop (mkF m 40 #[.val (.long q1), .second, .val (.long q2), .second, .val (.long q3), .second, .val (.long q4), .second, .val (.long pr), .second, .val (.long sm), .second, .unset, .unset] [(.long q4), (.long sm)])) _
          refine XS.lcmp X6.here hx rfl (hb hby d2_40) rfl ?_
          exact kt
        by_cases h4 : (lcmpW sm q4) < (0 : Int32)
        · have K21 : ∀ t, Steps p.tables e below (T6.setTop (mkF m 71 #[.val (.long q1), .second, .val (.long q2), .second, .val (.long q3), .second, .val (.long q4), .second, .val (.long pr), .second, .val (.long sm), .second, .val (.long (0 : Int64)), .second] [(.long (0 : Int64))])) t → Steps p.tables e below (s₁.setTop (entryFrame m #[(.long q1), (.long q2), (.long q3), (.long q4)] 14)) t := by
            intro t kt
            refine K20 t ?_
            show Steps p.tables e below (T6.setTop (mkF m 41 #[.val (.long q1), .second, .val (.long q2), .second, .val (.long q3), .second, .val (.long q4), .second, .val (.long pr), .second, .val (.long sm), .second, .unset, .unset] [(.int (lcmpW sm q4))])) _
            refine XS.ifNo X6.here hx rfl (hb hby d2_41) rfl ((if0 _ _).trans (tlt (h4 : (lcmpW sm q4) < (0 : Int32))).2.1) ?_
            show Steps p.tables e below (T6.setTop (mkF m 44 #[.val (.long q1), .second, .val (.long q2), .second, .val (.long q3), .second, .val (.long q4), .second, .val (.long pr), .second, .val (.long sm), .second, .unset, .unset] [])) _
            refine XS.lconst X6.here hx rfl (hb hby d2_44) ?_
            show Steps p.tables e below (T6.setTop (mkF m 45 #[.val (.long q1), .second, .val (.long q2), .second, .val (.long q3), .second, .val (.long q4), .second, .val (.long pr), .second, .val (.long sm), .second, .unset, .unset] [(.long (0 : Int64))])) _
            refine XS.goto X6.here hx rfl (pc0 := 45) (pc' := 53) rfl (hb hby d2_45) (by decide) (by decide) ?_
            show Steps p.tables e below (T6.setTop (mkF m 53 #[.val (.long q1), .second, .val (.long q2), .second, .val (.long q3), .second, .val (.long q4), .second, .val (.long pr), .second, .val (.long sm), .second, .unset, .unset] [(.long (0 : Int64))])) _
            refine XS.lstore X6.here hx rfl (hb hby d2_53) rfl (l' := #[.val (.long q1), .second, .val (.long q2), .second, .val (.long q3), .second, .val (.long q4), .second, .val (.long pr), .second, .val (.long sm), .second, .val (.long (0 : Int64)), .second]) rfl ?_
            show Steps p.tables e below (T6.setTop (mkF m 55 #[.val (.long q1), .second, .val (.long q2), .second, .val (.long q3), .second, .val (.long q4), .second, .val (.long pr), .second, .val (.long sm), .second, .val (.long (0 : Int64)), .second] [])) _
            refine XS.goto X6.here hx rfl (pc0 := 55) (pc' := 69) rfl (hb hby d2_55) (by decide) (by decide) ?_
            show Steps p.tables e below (T6.setTop (mkF m 69 #[.val (.long q1), .second, .val (.long q2), .second, .val (.long q3), .second, .val (.long q4), .second, .val (.long pr), .second, .val (.long sm), .second, .val (.long (0 : Int64)), .second] [])) _
            refine XS.lload X6.here hx rfl (hb hby d2_69) rfl ?_
            exact kt
          obtain ⟨fs, hr, hrun, hended, hW, hsame⟩ := X6.leave (v := some (.long (0 : Int64))) (fun h => by rw [Bd.returns] at h; cases h) (hlocks := hlk)
          refine ⟨_, _, K21 _ ?_, hrun, hended, _, _, rfl, ?_, ⟨_, rfl⟩, hW, hsame.mono (by decide) (by decide)⟩
          · exact retOut X6 hx Bd.returns rfl (Or.inr (Or.inl ⟨rfl, rfl, _, rfl⟩)) (hb hby d2_71) hr
          · show Qrm2 q1 q2 q3 q4 h0 n0 _ T6.heap _
            rw [e6]
            exact ⟨_, rfl, own_md0 p1 p2 p3 p4 hS ((lw_lt _ _).mp h4), N6, rfl⟩
        · have K22 : ∀ t, Steps p.tables e below (T6.setTop (mkF m 71 #[.val (.long q1), .second, .val (.long q2), .second, .val (.long q3), .second, .val (.long q4), .second, .val (.long pr), .second, .val (.long sm), .second, .val (.long (sm / q4)), .second] [(.long (sm / q4))])) t → Steps p.tables e below (s₁.setTop (entryFrame m #[(.long q1), (.long q2), (.long q3), (.long q4)] 14)) t := by
            intro t kt
            refine K20 t ?_
            show Steps p.tables e below (T6.setTop (mkF m 41 #[.val (.long q1), .second, .val (.long q2), .second, .val (.long q3), .second, .val (.long q4), .second, .val (.long pr), .second, .val (.long sm), .second, .unset, .unset] [(.int (lcmpW sm q4))])) _
            refine XS.ifYes X6.here hx rfl (pc0 := 41) (pc' := 48) rfl (hb hby d2_41) rfl ((if0 _ _).trans (flt (h4 : ¬ ((lcmpW sm q4) < (0 : Int32)))).2.1) (by decide) (by decide) ?_
            show Steps p.tables e below (T6.setTop (mkF m 48 #[.val (.long q1), .second, .val (.long q2), .second, .val (.long q3), .second, .val (.long q4), .second, .val (.long pr), .second, .val (.long sm), .second, .unset, .unset] [])) _
            refine XS.lload X6.here hx rfl (hb hby d2_48) rfl ?_
            show Steps p.tables e below (T6.setTop (mkF m 50 #[.val (.long q1), .second, .val (.long q2), .second, .val (.long q3), .second, .val (.long q4), .second, .val (.long pr), .second, .val (.long sm), .second, .unset, .unset] [(.long sm)])) _
            refine XS.lload X6.here hx rfl (hb hby d2_50) rfl ?_
            show Steps p.tables e below (T6.setTop (mkF m 52 #[.val (.long q1), .second, .val (.long q2), .second, .val (.long q3), .second, .val (.long q4), .second, .val (.long pr), .second, .val (.long sm), .second, .unset, .unset] [(.long q4), (.long sm)])) _
            refine XS.ldiv X6.here hx rfl (hb hby d2_52) rfl (own_ne0 p4) ?_
            show Steps p.tables e below (T6.setTop (mkF m 53 #[.val (.long q1), .second, .val (.long q2), .second, .val (.long q3), .second, .val (.long q4), .second, .val (.long pr), .second, .val (.long sm), .second, .unset, .unset] [(.long (sm / q4))])) _
            refine XS.lstore X6.here hx rfl (hb hby d2_53) rfl (l' := #[.val (.long q1), .second, .val (.long q2), .second, .val (.long q3), .second, .val (.long q4), .second, .val (.long pr), .second, .val (.long sm), .second, .val (.long (sm / q4)), .second]) rfl ?_
            show Steps p.tables e below (T6.setTop (mkF m 55 #[.val (.long q1), .second, .val (.long q2), .second, .val (.long q3), .second, .val (.long q4), .second, .val (.long pr), .second, .val (.long sm), .second, .val (.long (sm / q4)), .second] [])) _
            refine XS.goto X6.here hx rfl (pc0 := 55) (pc' := 69) rfl (hb hby d2_55) (by decide) (by decide) ?_
            show Steps p.tables e below (T6.setTop (mkF m 69 #[.val (.long q1), .second, .val (.long q2), .second, .val (.long q3), .second, .val (.long q4), .second, .val (.long pr), .second, .val (.long sm), .second, .val (.long (sm / q4)), .second] [])) _
            refine XS.lload X6.here hx rfl (hb hby d2_69) rfl ?_
            exact kt
          obtain ⟨fs, hr, hrun, hended, hW, hsame⟩ := X6.leave (v := some (.long (sm / q4))) (fun h => by rw [Bd.returns] at h; cases h) (hlocks := hlk)
          refine ⟨_, _, K22 _ ?_, hrun, hended, _, _, rfl, ?_, ⟨_, rfl⟩, hW, hsame.mono (by decide) (by decide)⟩
          · exact retOut X6 hx Bd.returns rfl (Or.inr (Or.inl ⟨rfl, rfl, _, rfl⟩)) (hb hby d2_71) hr
          · show Qrm2 q1 q2 q3 q4 h0 n0 _ T6.heap _
            rw [e6]
            exact ⟨_, rfl, own_mdq p4 hS (own_nn (fun z => h3 ((lw_lt _ _).mpr z))), N6, rfl⟩
  · have K23 : ∀ t, Steps p.tables e below (T6.setTop (mkF m 64 #[.val (.long q1), .second, .val (.long q2), .second, .val (.long q3), .second, .val (.long q4), .second, .val (.long pr), .second, .val (.long sm), .second, .unset, .unset] [(.long q4), (.long q3), (.long q2), (.long q1)])) t → Steps p.tables e below (s₁.setTop (entryFrame m #[(.long q1), (.long q2), (.long q3), (.long q4)] 14)) t := by
      intro t kt
      refine K8 t ?_
      show Steps p.tables e below (T6.setTop (mkF m 19 #[.val (.long q1), .second, .val (.long q2), .second, .val (.long q3), .second, .val (.long q4), .second, .val (.long pr), .second, .val (.long sm), .second, .unset, .unset] [(.int (lcmpW hi (0 : Int64)))])) _
      refine XS.ifYes X6.here hx rfl (pc0 := 19) (pc' := 58) rfl (hb hby d2_19) rfl ((if0 _ _).trans (feq (h1 : ¬ ((lcmpW hi (0 : Int64)) = (0 : Int32)))).2) (by decide) (by decide) ?_
      show Steps p.tables e below (T6.setTop (mkF m 58 #[.val (.long q1), .second, .val (.long q2), .second, .val (.long q3), .second, .val (.long q4), .second, .val (.long pr), .second, .val (.long sm), .second, .unset, .unset] [])) _
      refine XS.lloadN X6.here hx rfl (hb hby d2_58) rfl ?_
      show Steps p.tables e below (T6.setTop (mkF m 59 #[.val (.long q1), .second, .val (.long q2), .second, .val (.long q3), .second, .val (.long q4), .second, .val (.long pr), .second, .val (.long sm), .second, .unset, .unset] [(.long q1)])) _
      refine XS.lloadN X6.here hx rfl (hb hby d2_59) rfl ?_
      show Steps p.tables e below (T6.setTop (mkF m 60 #[.val (.long q1), .second, .val (.long q2), .second, .val (.long q3), .second, .val (.long q4), .second, .val (.long pr), .second, .val (.long sm), .second, .unset, .unset] [(.long q2), (.long q1)])) _
      refine XS.lload X6.here hx rfl (hb hby d2_60) rfl ?_
      show Steps p.tables e below (T6.setTop (mkF m 62 #[.val (.long q1), .second, .val (.long q2), .second, .val (.long q3), .second, .val (.long q4), .second, .val (.long pr), .second, .val (.long sm), .second, .unset, .unset] [(.long q3), (.long q2), (.long q1)])) _
      refine XS.lload X6.here hx rfl (hb hby d2_62) rfl ?_
      exact kt
    obtain ⟨_, _, ⟨T24, L24, k24, n24⟩, -, X24, ⟨Lc24, hQ24, l24, y24, z24⟩, st24⟩ := Jvm.LawKit.callS X6 hx (y := (⟨"com/example/limtok/limtok/ExactMath", "multiplyDivideWide", "(JJJJ)J"⟩ : MethodName)) hown (mvT hZ (hw _ (List.mem_of_getElem? (i := 22) rfl))) (mvT hZ (hw _ (List.mem_of_getElem? (i := 23) rfl))) (mvT hZ (hw _ (List.mem_of_getElem? (i := 7) rfl))) (mvT hZ (hw _ (List.mem_of_getElem? (i := 24) rfl))) (by decide) (backOf (W := 0) (rm6 l Z a0 hw [] q1 q2 q3 q4 h0 n0 Z0 p1 p2 p3 p4) hZ (hw _ (List.mem_of_getElem? (i := 24) rfl)) (hw _ (List.mem_of_getElem? (i := 7) rfl)) (by decide) (by decide)) (g := (mkF m 64 #[.val (.long q1), .second, .val (.long q2), .second, .val (.long q3), .second, .val (.long q4), .second, .val (.long pr), .second, .val (.long sm), .second, .unset, .unset] [(.long q4), (.long q3), (.long q2), (.long q1)])) rfl (by rw [hml]; rfl) (argsL := [(.long q1), (.long q2), (.long q3), (.long q4)]) (rest := []) (lenOf pd_3 rfl) rfl (by show 2 * 0 + _ ≤ _; exact Nat.le_of_eq rfl) (hb hby d2_64) (fun _ _ => ⟨rfl, e6, (by decide : 0 + 0 ≤ _), (by decide : 0 + 0 ≤ _)⟩)
    dsimp only [Pt.U, Pt.locs, Pt.cells, Pt.slots] at X24 l24 y24 z24 st24 hQ24
    subst l24 y24 z24
    obtain ⟨q9, rfl, hq9, Nq24, e24⟩ := hQ24
    have N24 := Fr.app N6 Nq24
    have K25 : ∀ t, Steps p.tables e below (T24.setTop (mkF m 67 #[.val (.long q1), .second, .val (.long q2), .second, .val (.long q3), .second, .val (.long q4), .second, .val (.long pr), .second, .val (.long sm), .second, .unset, .unset] [(.long q9)])) t → Steps p.tables e below (s₁.setTop (entryFrame m #[(.long q1), (.long q2), (.long q3), (.long q4)] 14)) t := fun t kt => K23 t (st24 t kt)
    have K26 : ∀ t, Steps p.tables e below (T24.setTop (mkF m 71 #[.val (.long q1), .second, .val (.long q2), .second, .val (.long q3), .second, .val (.long q4), .second, .val (.long pr), .second, .val (.long sm), .second, .val (.long q9), .second] [(.long q9)])) t → Steps p.tables e below (s₁.setTop (entryFrame m #[(.long q1), (.long q2), (.long q3), (.long q4)] 14)) t := by
      intro t kt
      refine K25 t ?_
      show Steps p.tables e below (T24.setTop (mkF m 67 #[.val (.long q1), .second, .val (.long q2), .second, .val (.long q3), .second, .val (.long q4), .second, .val (.long pr), .second, .val (.long sm), .second, .unset, .unset] [(.long q9)])) _
      refine XS.lstore X24.here hx rfl (hb hby d2_67) rfl (l' := #[.val (.long q1), .second, .val (.long q2), .second, .val (.long q3), .second, .val (.long q4), .second, .val (.long pr), .second, .val (.long sm), .second, .val (.long q9), .second]) rfl ?_
      show Steps p.tables e below (T24.setTop (mkF m 69 #[.val (.long q1), .second, .val (.long q2), .second, .val (.long q3), .second, .val (.long q4), .second, .val (.long pr), .second, .val (.long sm), .second, .val (.long q9), .second] [])) _
      refine XS.lload X24.here hx rfl (hb hby d2_69) rfl ?_
      exact kt
    obtain ⟨fs, hr, hrun, hended, hW, hsame⟩ := X24.leave (v := some (.long q9)) (fun h => by rw [Bd.returns] at h; cases h) (hlocks := hlk)
    refine ⟨_, _, K26 _ ?_, hrun, hended, _, _, rfl, ?_, ⟨_, rfl⟩, hW, hsame.mono (by decide) (by decide)⟩
    · exact retOut X24 hx Bd.returns rfl (Or.inr (Or.inl ⟨rfl, rfl, _, rfl⟩)) (hb hby d2_71) hr
    · show Qrm2 q1 q2 q3 q4 h0 n0 _ T24.heap _
      rw [e24]
      exact ⟨_, rfl, hq9, N24, rfl⟩
theorem ef_rm0 (m : MethodId) (x0 : Int64) (x1 : Int64) (x2 : Int64) (x3 : Int64) : entryFrame m #[(.long x0), (.long x1), (.long x2), (.long x3)] maxLocals = mkF m 0 #[.val (.long x0), .second, .val (.long x1), .second, .val (.long x2), .second, .val (.long x3), .second, .unset, .unset, .unset, .unset, .unset, .unset, .unset, .unset, .unset, .unset, .unset, .unset, .unset, .unset, .unset, .unset, .unset, .unset, .unset, .unset, .unset, .unset, .unset, .unset] [] := by first | (simp [entryFrame, mkF, argsToLocals, Value.category, maxLocals]; done) | rfl
def Qrm0 (b1 b2 b3 b4 : Int64) (h0 : Heap) (n0 : Nat) (v : Option Value) (h : Heap) (L : List Loc) : Prop := v = some (.int 1) ∧ Fr n0 L
set_option maxRecDepth 65536 in
set_option maxHeartbeats 40000000 in
theorem rm0 (l : Launch) (Z : State) (a0 : Array Value) (hw : ∀ d ∈ tables_1, d.before a0 Z = true) (ws : List Jvm.Cond) (b1 b2 b3 b4 : Int64) (h0 : Heap) (n0 : Nat) (Z0 : n0 ≤ h0.size)  :
    MetFree l x (head1 (Jvm.Cond.code x code maxLocals ret :: ws) room_1) (fun a U => a = #[(.long b1), (.long b2), (.long b3), (.long b4)] ∧ Z.Warmed39 U.vm ∧ U.heap = h0) (fun _ _ _ _ _ => True) (fun _ U o U' => ∃ v L, o = .returned v ∧ Qrm0 b1 b2 b3 b4 h0 n0 v U'.heap L ∧ FrameEnd U o U' L room_1.cells room_1.slots) := by
  refine MetFree.of_bodySF (plainFor_of_name pn_0) hisR ?_
  intro p e s m args below meth c s₁ Bd hml0 hP hK
  obtain ⟨rfl, hZ, hh⟩ := hP
  have hx := Bd.exec
  have hlk : meth.locks = false := BodyLoose.notSynchronized Bd
  have hby := Bd.bytes
  have hml : c.maxLocals = 32 := hml0
  have hown : s.vm.findClass "com/example/limtok/limtok/ExactMathMultiplyDividePinLaw" = some m.cls := findClass_of_methodNamed Bd.named
  have hnm := (name_of_methodNamed Bd.named Bd.method).1
  have X0 : Stand p l e room_1 s m #[(.long b1), (.long b2), (.long b3), (.long b4)] below meth c s₁ [] 0 0 := Stand.of_body Bd
  have e0 : s₁.heap = h0 := by rw [← hh, Bd.state]; rfl
  have N0 := Fr.nil n0
  have K0 : ∀ t, Steps p.tables e below (s₁.setTop (mkF m 0 #[.val (.long b1), .second, .val (.long b2), .second, .val (.long b3), .second, .val (.long b4), .second, .unset, .unset, .unset, .unset, .unset, .unset, .unset, .unset, .unset, .unset, .unset, .unset, .unset, .unset, .unset, .unset, .unset, .unset, .unset, .unset, .unset, .unset, .unset, .unset] [])) t → Steps p.tables e below (s₁.setTop (entryFrame m #[(.long b1), (.long b2), (.long b3), (.long b4)] maxLocals)) t := fun t k => castTop (ef_rm0 m b1 b2 b3 b4) k
  have K1 : ∀ t, Steps p.tables e below (s₁.setTop (mkF m 5 #[.val (.long b1), .second, .val (.long b2), .second, .val (.long b3), .second, .val (.long b4), .second, .unset, .unset, .unset, .unset, .unset, .unset, .unset, .unset, .unset, .unset, .unset, .unset, .unset, .unset, .unset, .unset, .unset, .unset, .unset, .unset, .unset, .unset, .unset, .unset] [(.long (b1 &&& (9223372036854775807 : Int64)))])) t → Steps p.tables e below (s₁.setTop (entryFrame m #[(.long b1), (.long b2), (.long b3), (.long b4)] maxLocals)) t := by
    intro t kt
    refine K0 t ?_
    show Steps p.tables e below (s₁.setTop (mkF m 0 #[.val (.long b1), .second, .val (.long b2), .second, .val (.long b3), .second, .val (.long b4), .second, .unset, .unset, .unset, .unset, .unset, .unset, .unset, .unset, .unset, .unset, .unset, .unset, .unset, .unset, .unset, .unset, .unset, .unset, .unset, .unset, .unset, .unset, .unset, .unset] [])) _
    refine XS.lloadN X0.here hx rfl (hb hby at_0) rfl ?_
    show Steps p.tables e below (s₁.setTop (mkF m 1 #[.val (.long b1), .second, .val (.long b2), .second, .val (.long b3), .second, .val (.long b4), .second, .unset, .unset, .unset, .unset, .unset, .unset, .unset, .unset, .unset, .unset, .unset, .unset, .unset, .unset, .unset, .unset, .unset, .unset, .unset, .unset, .unset, .unset, .unset, .unset] [(.long b1)])) _
    refine X0.ldc2Long hx hown (mvT hZ (hw _ (List.mem_of_getElem? (i := 0) rfl))) (g := (mkF m 1 #[.val (.long b1), .second, .val (.long b2), .second, .val (.long b3), .second, .val (.long b4), .second, .unset, .unset, .unset, .unset, .unset, .unset, .unset, .unset, .unset, .unset, .unset, .unset, .unset, .unset, .unset, .unset, .unset, .unset, .unset, .unset, .unset, .unset, .unset, .unset] [(.long b1)])) rfl (hb hby at_1) _ ?_
    show Steps p.tables e below (s₁.setTop (mkF m 4 #[.val (.long b1), .second, .val (.long b2), .second, .val (.long b3), .second, .val (.long b4), .second, .unset, .unset, .unset, .unset, .unset, .unset, .unset, .unset, .unset, .unset, .unset, .unset, .unset, .unset, .unset, .unset, .unset, .unset, .unset, .unset, .unset, .unset, .unset, .unset] [(.long (9223372036854775807 : Int64)), (.long b1)])) _
    refine XS.land X0.here hx rfl (hb hby at_4) rfl ?_
    exact kt
  obtain ⟨q1, hq1⟩ : ∃ z : Int64, z = (b1 &&& (9223372036854775807 : Int64)) := ⟨_, rfl⟩
  have K2 : ∀ t, Steps p.tables e below (s₁.setTop (mkF m 5 #[.val (.long b1), .second, .val (.long b2), .second, .val (.long b3), .second, .val (.long b4), .second, .unset, .unset, .unset, .unset, .unset, .unset, .unset, .unset, .unset, .unset, .unset, .unset, .unset, .unset, .unset, .unset, .unset, .unset, .unset, .unset, .unset, .unset, .unset, .unset] [(.long q1)])) t → Steps p.tables e below (s₁.setTop (entryFrame m #[(.long b1), (.long b2), (.long b3), (.long b4)] maxLocals)) t := by
    rw [hq1]; exact K1
  have K3 : ∀ t, Steps p.tables e below (s₁.setTop (mkF m 12 #[.val (.long b1), .second, .val (.long b2), .second, .val (.long b3), .second, .val (.long b4), .second, .val (.long q1), .second, .unset, .unset, .unset, .unset, .unset, .unset, .unset, .unset, .unset, .unset, .unset, .unset, .unset, .unset, .unset, .unset, .unset, .unset, .unset, .unset, .unset, .unset] [(.long (b2 &&& (9223372036854775807 : Int64)))])) t → Steps p.tables e below (s₁.setTop (entryFrame m #[(.long b1), (.long b2), (.long b3), (.long b4)] maxLocals)) t := by
    intro t kt
    refine K2 t ?_
    show Steps p.tables e below (s₁.setTop (mkF m 5 #[.val (.long b1), .second, .val (.long b2), .second, .val (.long b3), .second, .val (.long b4), .second, .unset, .unset, .unset, .unset, .unset, .unset, .unset, .unset, .unset, .unset, .unset, .unset, .unset, .unset, .unset, .unset, .unset, .unset, .unset, .unset, .unset, .unset, .unset, .unset] [(.long q1)])) _
    refine XS.lstore X0.here hx rfl (hb hby at_5) rfl (l' := #[.val (.long b1), .second, .val (.long b2), .second, .val (.long b3), .second, .val (.long b4), .second, .val (.long q1), .second, .unset, .unset, .unset, .unset, .unset, .unset, .unset, .unset, .unset, .unset, .unset, .unset, .unset, .unset, .unset, .unset, .unset, .unset, .unset, .unset, .unset, .unset]) rfl ?_
    show Steps p.tables e below (s₁.setTop (mkF m 7 #[.val (.long b1), .second, .val (.long b2), .second, .val (.long b3), .second, .val (.long b4), .second, .val (.long q1), .second, .unset, .unset, .unset, .unset, .unset, .unset, .unset, .unset, .unset, .unset, .unset, .unset, .unset, .unset, .unset, .unset, .unset, .unset, .unset, .unset, .unset, .unset] [])) _
    refine XS.lloadN X0.here hx rfl (hb hby at_7) rfl ?_
    show Steps p.tables e below (s₁.setTop (mkF m 8 #[.val (.long b1), .second, .val (.long b2), .second, .val (.long b3), .second, .val (.long b4), .second, .val (.long q1), .second, .unset, .unset, .unset, .unset, .unset, .unset, .unset, .unset, .unset, .unset, .unset, .unset, .unset, .unset, .unset, .unset, .unset, .unset, .unset, .unset, .unset, .unset] [(.long b2)])) _
    refine X0.ldc2Long hx hown (mvT hZ (hw _ (List.mem_of_getElem? (i := 0) rfl))) (g := (mkF m 8 #[.val (.long b1), .second, .val (.long b2), .second, .val (.long b3), .second, .val (.long b4), .second, .val (.long q1), .second, .unset, .unset, .unset, .unset, .unset, .unset, .unset, .unset, .unset, .unset, .unset, .unset, .unset, .unset, .unset, .unset, .unset, .unset, .unset, .unset, .unset, .unset] [(.long b2)])) rfl (hb hby at_8) _ ?_
    show Steps p.tables e below (s₁.setTop (mkF m 11 #[.val (.long b1), .second, .val (.long b2), .second, .val (.long b3), .second, .val (.long b4), .second, .val (.long q1), .second, .unset, .unset, .unset, .unset, .unset, .unset, .unset, .unset, .unset, .unset, .unset, .unset, .unset, .unset, .unset, .unset, .unset, .unset, .unset, .unset, .unset, .unset] [(.long (9223372036854775807 : Int64)), (.long b2)])) _
    refine XS.land X0.here hx rfl (hb hby at_11) rfl ?_
    exact kt
  obtain ⟨q2, hq2⟩ : ∃ z : Int64, z = (b2 &&& (9223372036854775807 : Int64)) := ⟨_, rfl⟩
  have K4 : ∀ t, Steps p.tables e below (s₁.setTop (mkF m 12 #[.val (.long b1), .second, .val (.long b2), .second, .val (.long b3), .second, .val (.long b4), .second, .val (.long q1), .second, .unset, .unset, .unset, .unset, .unset, .unset, .unset, .unset, .unset, .unset, .unset, .unset, .unset, .unset, .unset, .unset, .unset, .unset, .unset, .unset, .unset, .unset] [(.long q2)])) t → Steps p.tables e below (s₁.setTop (entryFrame m #[(.long b1), (.long b2), (.long b3), (.long b4)] maxLocals)) t := by
    rw [hq2]; exact K3
  have K5 : ∀ t, Steps p.tables e below (s₁.setTop (mkF m 20 #[.val (.long b1), .second, .val (.long b2), .second, .val (.long b3), .second, .val (.long b4), .second, .val (.long q1), .second, .val (.long q2), .second, .unset, .unset, .unset, .unset, .unset, .unset, .unset, .unset, .unset, .unset, .unset, .unset, .unset, .unset, .unset, .unset, .unset, .unset, .unset, .unset] [(.long (b3 &&& (9223372036854775807 : Int64)))])) t → Steps p.tables e below (s₁.setTop (entryFrame m #[(.long b1), (.long b2), (.long b3), (.long b4)] maxLocals)) t := by
    intro t kt
    refine K4 t ?_
    show Steps p.tables e below (s₁.setTop (mkF m 12 #[.val (.long b1), .second, .val (.long b2), .second, .val (.long b3), .second, .val (.long b4), .second, .val (.long q1), .second, .unset, .unset, .unset, .unset, .unset, .unset, .unset, .unset, .unset, .unset, .unset, .unset, .unset, .unset, .unset, .unset, .unset, .unset, .unset, .unset, .unset, .unset] [(.long q2)])) _
    refine XS.lstore X0.here hx rfl (hb hby at_12) rfl (l' := #[.val (.long b1), .second, .val (.long b2), .second, .val (.long b3), .second, .val (.long b4), .second, .val (.long q1), .second, .val (.long q2), .second, .unset, .unset, .unset, .unset, .unset, .unset, .unset, .unset, .unset, .unset, .unset, .unset, .unset, .unset, .unset, .unset, .unset, .unset, .unset, .unset]) rfl ?_
    show Steps p.tables e below (s₁.setTop (mkF m 14 #[.val (.long b1), .second, .val (.long b2), .second, .val (.long b3), .second, .val (.long b4), .second, .val (.long q1), .second, .val (.long q2), .second, .unset, .unset, .unset, .unset, .unset, .unset, .unset, .unset, .unset, .unset, .unset, .unset, .unset, .unset, .unset, .unset, .unset, .unset, .unset, .unset] [])) _
    refine XS.lload X0.here hx rfl (hb hby at_14) rfl ?_
    show Steps p.tables e below (s₁.setTop (mkF m 16 #[.val (.long b1), .second, .val (.long b2), .second, .val (.long b3), .second, .val (.long b4), .second, .val (.long q1), .second, .val (.long q2), .second, .unset, .unset, .unset, .unset, .unset, .unset, .unset, .unset, .unset, .unset, .unset, .unset, .unset, .unset, .unset, .unset, .unset, .unset, .unset, .unset] [(.long b3)])) _
    refine X0.ldc2Long hx hown (mvT hZ (hw _ (List.mem_of_getElem? (i := 0) rfl))) (g := (mkF m 16 #[.val (.long b1), .second, .val (.long b2), .second, .val (.long b3), .second, .val (.long b4), .second, .val (.long q1), .second, .val (.long q2), .second, .unset, .unset, .unset, .unset, .unset, .unset, .unset, .unset, .unset, .unset, .unset, .unset, .unset, .unset, .unset, .unset, .unset, .unset, .unset, .unset] [(.long b3)])) rfl (hb hby at_16) _ ?_
    show Steps p.tables e below (s₁.setTop (mkF m 19 #[.val (.long b1), .second, .val (.long b2), .second, .val (.long b3), .second, .val (.long b4), .second, .val (.long q1), .second, .val (.long q2), .second, .unset, .unset, .unset, .unset, .unset, .unset, .unset, .unset, .unset, .unset, .unset, .unset, .unset, .unset, .unset, .unset, .unset, .unset, .unset, .unset] [(.long (9223372036854775807 : Int64)), (.long b3)])) _
    refine XS.land X0.here hx rfl (hb hby at_19) rfl ?_
    exact kt
  obtain ⟨q3, hq3⟩ : ∃ z : Int64, z = (b3 &&& (9223372036854775807 : Int64)) := ⟨_, rfl⟩
  have K6 : ∀ t, Steps p.tables e below (s₁.setTop (mkF m 20 #[.val (.long b1), .second, .val (.long b2), .second, .val (.long b3), .second, .val (.long b4), .second, .val (.long q1), .second, .val (.long q2), .second, .unset, .unset, .unset, .unset, .unset, .unset, .unset, .unset, .unset, .unset, .unset, .unset, .unset, .unset, .unset, .unset, .unset, .unset, .unset, .unset] [(.long q3)])) t → Steps p.tables e below (s₁.setTop (entryFrame m #[(.long b1), (.long b2), (.long b3), (.long b4)] maxLocals)) t := by
    rw [hq3]; exact K5
  have K7 : ∀ t, Steps p.tables e below (s₁.setTop (mkF m 29 #[.val (.long b1), .second, .val (.long b2), .second, .val (.long b3), .second, .val (.long b4), .second, .val (.long q1), .second, .val (.long q2), .second, .val (.long q3), .second, .unset, .unset, .unset, .unset, .unset, .unset, .unset, .unset, .unset, .unset, .unset, .unset, .unset, .unset, .unset, .unset, .unset, .unset] [(.long (b4 &&& (9223372036854775807 : Int64))), (.long (1 : Int64))])) t → Steps p.tables e below (s₁.setTop (entryFrame m #[(.long b1), (.long b2), (.long b3), (.long b4)] maxLocals)) t := by
    intro t kt
    refine K6 t ?_
    show Steps p.tables e below (s₁.setTop (mkF m 20 #[.val (.long b1), .second, .val (.long b2), .second, .val (.long b3), .second, .val (.long b4), .second, .val (.long q1), .second, .val (.long q2), .second, .unset, .unset, .unset, .unset, .unset, .unset, .unset, .unset, .unset, .unset, .unset, .unset, .unset, .unset, .unset, .unset, .unset, .unset, .unset, .unset] [(.long q3)])) _
    refine XS.lstore X0.here hx rfl (hb hby at_20) rfl (l' := #[.val (.long b1), .second, .val (.long b2), .second, .val (.long b3), .second, .val (.long b4), .second, .val (.long q1), .second, .val (.long q2), .second, .val (.long q3), .second, .unset, .unset, .unset, .unset, .unset, .unset, .unset, .unset, .unset, .unset, .unset, .unset, .unset, .unset, .unset, .unset, .unset, .unset]) rfl ?_
    show Steps p.tables e below (s₁.setTop (mkF m 22 #[.val (.long b1), .second, .val (.long b2), .second, .val (.long b3), .second, .val (.long b4), .second, .val (.long q1), .second, .val (.long q2), .second, .val (.long q3), .second, .unset, .unset, .unset, .unset, .unset, .unset, .unset, .unset, .unset, .unset, .unset, .unset, .unset, .unset, .unset, .unset, .unset, .unset] [])) _
    refine XS.lconst X0.here hx rfl (hb hby at_22) ?_
    show Steps p.tables e below (s₁.setTop (mkF m 23 #[.val (.long b1), .second, .val (.long b2), .second, .val (.long b3), .second, .val (.long b4), .second, .val (.long q1), .second, .val (.long q2), .second, .val (.long q3), .second, .unset, .unset, .unset, .unset, .unset, .unset, .unset, .unset, .unset, .unset, .unset, .unset, .unset, .unset, .unset, .unset, .unset, .unset] [(.long (1 : Int64))])) _
    refine XS.lload X0.here hx rfl (hb hby at_23) rfl ?_
    show Steps p.tables e below (s₁.setTop (mkF m 25 #[.val (.long b1), .second, .val (.long b2), .second, .val (.long b3), .second, .val (.long b4), .second, .val (.long q1), .second, .val (.long q2), .second, .val (.long q3), .second, .unset, .unset, .unset, .unset, .unset, .unset, .unset, .unset, .unset, .unset, .unset, .unset, .unset, .unset, .unset, .unset, .unset, .unset] [(.long b4), (.long (1 : Int64))])) _
    refine X0.ldc2Long hx hown (mvT hZ (hw _ (List.mem_of_getElem? (i := 0) rfl))) (g := (mkF m 25 #[.val (.long b1), .second, .val (.long b2), .second, .val (.long b3), .second, .val (.long b4), .second, .val (.long q1), .second, .val (.long q2), .second, .val (.long q3), .second, .unset, .unset, .unset, .unset, .unset, .unset, .unset, .unset, .unset, .unset, .unset, .unset, .unset, .unset, .unset, .unset, .unset, .unset] [(.long b4), (.long (1 : Int64))])) rfl (hb hby at_25) _ ?_
    show Steps p.tables e below (s₁.setTop (mkF m 28 #[.val (.long b1), .second, .val (.long b2), .second, .val (.long b3), .second, .val (.long b4), .second, .val (.long q1), .second, .val (.long q2), .second, .val (.long q3), .second, .unset, .unset, .unset, .unset, .unset, .unset, .unset, .unset, .unset, .unset, .unset, .unset, .unset, .unset, .unset, .unset, .unset, .unset] [(.long (9223372036854775807 : Int64)), (.long b4), (.long (1 : Int64))])) _
    refine XS.land X0.here hx rfl (hb hby at_28) rfl ?_
    exact kt
  have p1 := own_mask63 hq1
  have p2 := own_mask63 hq2
  have p3 := own_mask63 hq3
  obtain ⟨_, _, ⟨T8, L8, k8, n8⟩, -, X8, ⟨Lc8, hQ8, l8, y8, z8⟩, st8⟩ := Jvm.LawKit.callS X0 hx (y := (⟨"java/lang/Math", "max", "(JJ)J"⟩ : MethodName)) hown (mvT hZ (hw _ (List.mem_of_getElem? (i := 1) rfl))) (mvT hZ (hw _ (List.mem_of_getElem? (i := 2) rfl))) (mvT hZ (hw _ (List.mem_of_getElem? (i := 3) rfl))) (mvT hZ (hw _ (List.mem_of_getElem? (i := 4) rfl))) (by decide) (backOf (W := 0) (rm1 l Z a0 hw [] (1 : Int64) (b4 &&& (9223372036854775807 : Int64)) h0 n0 Z0) hZ (hw _ (List.mem_of_getElem? (i := 4) rfl)) (hw _ (List.mem_of_getElem? (i := 3) rfl)) (by decide) (by decide)) (g := (mkF m 29 #[.val (.long b1), .second, .val (.long b2), .second, .val (.long b3), .second, .val (.long b4), .second, .val (.long q1), .second, .val (.long q2), .second, .val (.long q3), .second, .unset, .unset, .unset, .unset, .unset, .unset, .unset, .unset, .unset, .unset, .unset, .unset, .unset, .unset, .unset, .unset, .unset, .unset] [(.long (b4 &&& (9223372036854775807 : Int64))), (.long (1 : Int64))])) rfl (by rw [hml]; rfl) (argsL := [(.long (1 : Int64)), (.long (b4 &&& (9223372036854775807 : Int64)))]) (rest := []) (lenOf pd_1 rfl) rfl (by show 2 * 0 + _ ≤ _; exact Nat.le_of_eq rfl) (hb hby at_29) (fun _ _ => ⟨rfl, e0, (by decide : 0 + 0 ≤ _), (by decide : 0 + 0 ≤ _)⟩)
  dsimp only [Pt.U, Pt.locs, Pt.cells, Pt.slots] at X8 l8 y8 z8 st8 hQ8
  subst l8 y8 z8
  obtain ⟨q4, rfl, hq4, Nq8, e8⟩ := hQ8
  have N8 := Fr.app N0 Nq8
  have K9 : ∀ t, Steps p.tables e below (T8.setTop (mkF m 32 #[.val (.long b1), .second, .val (.long b2), .second, .val (.long b3), .second, .val (.long b4), .second, .val (.long q1), .second, .val (.long q2), .second, .val (.long q3), .second, .unset, .unset, .unset, .unset, .unset, .unset, .unset, .unset, .unset, .unset, .unset, .unset, .unset, .unset, .unset, .unset, .unset, .unset] [(.long q4)])) t → Steps p.tables e below (s₁.setTop (entryFrame m #[(.long b1), (.long b2), (.long b3), (.long b4)] maxLocals)) t := fun t kt => K7 t (st8 t kt)
  have p4 := own_ge1 hq4
  have K10 : ∀ t, Steps p.tables e below (T8.setTop (mkF m 42 #[.val (.long b1), .second, .val (.long b2), .second, .val (.long b3), .second, .val (.long b4), .second, .val (.long q1), .second, .val (.long q2), .second, .val (.long q3), .second, .val (.long q4), .second, .unset, .unset, .unset, .unset, .unset, .unset, .unset, .unset, .unset, .unset, .unset, .unset, .unset, .unset, .unset, .unset] [(.long q4), (.long q3), (.long q2), (.long q1)])) t → Steps p.tables e below (s₁.setTop (entryFrame m #[(.long b1), (.long b2), (.long b3), (.long b4)] maxLocals)) t := by
    intro t kt
    refine K9 t ?_
    show Steps p.tables e below (T8.setTop (mkF m 32 #[.val (.long b1), .second, .val (.long b2), .second, .val (.long b3), .second, .val (.long b4), .second, .val (.long q1), .second, .val (.long q2), .second, .val (.long q3), .second, .unset, .unset, .unset, .unset, .unset, .unset, .unset, .unset, .unset, .unset, .unset, .unset, .unset, .unset, .unset, .unset, .unset, .unset] [(.long q4)])) _
    refine XS.lstore X8.here hx rfl (hb hby at_32) rfl (l' := #[.val (.long b1), .second, .val (.long b2), .second, .val (.long b3), .second, .val (.long b4), .second, .val (.long q1), .second, .val (.long q2), .second, .val (.long q3), .second, .val (.long q4), .second, .unset, .unset, .unset, .unset, .unset, .unset, .unset, .unset, .unset, .unset, .unset, .unset, .unset, .unset, .unset, .unset]) rfl ?_
    show Steps p.tables e below (T8.setTop (mkF m 34 #[.val (.long b1), .second, .val (.long b2), .second, .val (.long b3), .second, .val (.long b4), .second, .val (.long q1), .second, .val (.long q2), .second, .val (.long q3), .second, .val (.long q4), .second, .unset, .unset, .unset, .unset, .unset, .unset, .unset, .unset, .unset, .unset, .unset, .unset, .unset, .unset, .unset, .unset] [])) _
    refine XS.lload X8.here hx rfl (hb hby at_34) rfl ?_
    show Steps p.tables e below (T8.setTop (mkF m 36 #[.val (.long b1), .second, .val (.long b2), .second, .val (.long b3), .second, .val (.long b4), .second, .val (.long q1), .second, .val (.long q2), .second, .val (.long q3), .second, .val (.long q4), .second, .unset, .unset, .unset, .unset, .unset, .unset, .unset, .unset, .unset, .unset, .unset, .unset, .unset, .unset, .unset, .unset] [(.long q1)])) _
    refine XS.lload X8.here hx rfl (hb hby at_36) rfl ?_
    show Steps p.tables e below (T8.setTop (mkF m 38 #[.val (.long b1), .second, .val (.long b2), .second, .val (.long b3), .second, .val (.long b4), .second, .val (.long q1), .second, .val (.long q2), .second, .val (.long q3), .second, .val (.long q4), .second, .unset, .unset, .unset, .unset, .unset, .unset, .unset, .unset, .unset, .unset, .unset, .unset, .unset, .unset, .unset, .unset] [(.long q2), (.long q1)])) _
    refine XS.lload X8.here hx rfl (hb hby at_38) rfl ?_
    show Steps p.tables e below (T8.setTop (mkF m 40 #[.val (.long b1), .second, .val (.long b2), .second, .val (.long b3), .second, .val (.long b4), .second, .val (.long q1), .second, .val (.long q2), .second, .val (.long q3), .second, .val (.long q4), .second, .unset, .unset, .unset, .unset, .unset, .unset, .unset, .unset, .unset, .unset, .unset, .unset, .unset, .unset, .unset, .unset] [(.long q3), (.long q2), (.long q1)])) _
    refine XS.lload X8.here hx rfl (hb hby at_40) rfl ?_
    exact kt
  obtain ⟨_, _, ⟨T11, L11, k11, n11⟩, -, X11, ⟨Lc11, hQ11, l11, y11, z11⟩, st11⟩ := Jvm.LawKit.callS X8 hx (y := (⟨"com/example/limtok/limtok/ExactMath", "multiplyDivide", "(JJJJ)J"⟩ : MethodName)) hown (mvT hZ (hw _ (List.mem_of_getElem? (i := 5) rfl))) (mvT hZ (hw _ (List.mem_of_getElem? (i := 6) rfl))) (mvT hZ (hw _ (List.mem_of_getElem? (i := 7) rfl))) (mvT hZ (hw _ (List.mem_of_getElem? (i := 8) rfl))) (by decide) (backOf (W := 0) (rm2 l Z a0 hw [] q1 q2 q3 q4 h0 n0 Z0 p1 p2 p3 p4) hZ (hw _ (List.mem_of_getElem? (i := 8) rfl)) (hw _ (List.mem_of_getElem? (i := 7) rfl)) (by decide) (by decide)) (g := (mkF m 42 #[.val (.long b1), .second, .val (.long b2), .second, .val (.long b3), .second, .val (.long b4), .second, .val (.long q1), .second, .val (.long q2), .second, .val (.long q3), .second, .val (.long q4), .second, .unset, .unset, .unset, .unset, .unset, .unset, .unset, .unset, .unset, .unset, .unset, .unset, .unset, .unset, .unset, .unset] [(.long q4), (.long q3), (.long q2), (.long q1)])) rfl (by rw [hml]; rfl) (argsL := [(.long q1), (.long q2), (.long q3), (.long q4)]) (rest := []) (lenOf pd_3 rfl) rfl (by show 2 * 0 + _ ≤ _; exact Nat.le_of_eq rfl) (hb hby at_42) (fun _ _ => ⟨rfl, e8, (by decide : 0 + 0 ≤ _), (by decide : 0 + 0 ≤ _)⟩)
  dsimp only [Pt.U, Pt.locs, Pt.cells, Pt.slots] at X11 l11 y11 z11 st11 hQ11
  subst l11 y11 z11
  obtain ⟨q9, rfl, hq9, Nq11, e11⟩ := hQ11
  have N11 := Fr.app N8 Nq11
  have K12 : ∀ t, Steps p.tables e below (T11.setTop (mkF m 45 #[.val (.long b1), .second, .val (.long b2), .second, .val (.long b3), .second, .val (.long b4), .second, .val (.long q1), .second, .val (.long q2), .second, .val (.long q3), .second, .val (.long q4), .second, .unset, .unset, .unset, .unset, .unset, .unset, .unset, .unset, .unset, .unset, .unset, .unset, .unset, .unset, .unset, .unset] [(.long q9)])) t → Steps p.tables e below (s₁.setTop (entryFrame m #[(.long b1), (.long b2), (.long b3), (.long b4)] maxLocals)) t := fun t kt => K10 t (st11 t kt)
  have K13 : ∀ t, Steps p.tables e below (T11.setTop (mkF m 64 #[.val (.long b1), .second, .val (.long b2), .second, .val (.long b3), .second, .val (.long b4), .second, .val (.long q1), .second, .val (.long q2), .second, .val (.long q3), .second, .val (.long q4), .second, .val (.long q9), .second, .unset, .unset, .unset, .unset, .unset, .unset, .unset, .unset, .unset, .unset, .unset, .unset, .unset, .unset] [(.long ((q1 * q2) + q3))])) t → Steps p.tables e below (s₁.setTop (entryFrame m #[(.long b1), (.long b2), (.long b3), (.long b4)] maxLocals)) t := by
    intro t kt
    refine K12 t ?_
    show Steps p.tables e below (T11.setTop (mkF m 45 #[.val (.long b1), .second, .val (.long b2), .second, .val (.long b3), .second, .val (.long b4), .second, .val (.long q1), .second, .val (.long q2), .second, .val (.long q3), .second, .val (.long q4), .second, .unset, .unset, .unset, .unset, .unset, .unset, .unset, .unset, .unset, .unset, .unset, .unset, .unset, .unset, .unset, .unset] [(.long q9)])) _
    refine XS.lstore X11.here hx rfl (hb hby at_45) rfl (l' := #[.val (.long b1), .second, .val (.long b2), .second, .val (.long b3), .second, .val (.long b4), .second, .val (.long q1), .second, .val (.long q2), .second, .val (.long q3), .second, .val (.long q4), .second, .val (.long q9), .second, .unset, .unset, .unset, .unset, .unset, .unset, .unset, .unset, .unset, .unset, .unset, .unset, .unset, .unset]) rfl ?_
    show Steps p.tables e below (T11.setTop (mkF m 47 #[.val (.long b1), .second, .val (.long b2), .second, .val (.long b3), .second, .val (.long b4), .second, .val (.long q1), .second, .val (.long q2), .second, .val (.long q3), .second, .val (.long q4), .second, .val (.long q9), .second, .unset, .unset, .unset, .unset, .unset, .unset, .unset, .unset, .unset, .unset, .unset, .unset, .unset, .unset] [])) _
    refine XS.lload X11.here hx rfl (hb hby at_47) rfl ?_
    show Steps p.tables e below (T11.setTop (mkF m 49 #[.val (.long b1), .second, .val (.long b2), .second, .val (.long b3), .second, .val (.long b4), .second, .val (.long q1), .second, .val (.long q2), .second, .val (.long q3), .second, .val (.long q4), .second, .val (.long q9), .second, .unset, .unset, .unset, .unset, .unset, .unset, .unset, .unset, .unset, .unset, .unset, .unset, .unset, .unset] [(.long q9)])) _
    refine XS.lconst X11.here hx rfl (hb hby at_49) ?_
    show Steps p.tables e below (T11.setTop (mkF m 50 #[.val (.long b1), .second, .val (.long b2), .second, .val (.long b3), .second, .val (.long b4), .second, .val (.long q1), .second, .val (.long q2), .second, .val (.long q3), .second, .val (.long q4), .second, .val (.long q9), .second, .unset, .unset, .unset, .unset, .unset, .unset, .unset, .unset, .unset, .unset, .unset, .unset, .unset, .unset] [(.long (0 : Int64)), (.long q9)])) _
    refine XS.lcmp X11.here hx rfl (hb hby at_50) rfl ?_
    show Steps p.tables e below (T11.setTop (mkF m 51 #[.val (.long b1), .second, .val (.long b2), .second, .val (.long b3), .second, .val (.long b4), .second, .val (.long q1), .second, .val (.long q2), .second, .val (.long q3), .second, .val (.long q4), .second, .val (.long q9), .second, .unset, .unset, .unset, .unset, .unset, .unset, .unset, .unset, .unset, .unset, .unset, .unset, .unset, .unset] [(.int (lcmpW q9 (0 : Int64)))])) _
    refine XS.ifYes X11.here hx rfl (pc0 := 51) (pc' := 56) rfl (hb hby at_51) rfl ((if0 _ _).trans (flt ((fun z => own_md_nn hq9 ((lw_lt _ _).mp z)) : ¬ ((lcmpW q9 (0 : Int64)) < (0 : Int32)))).2.1) (by decide) (by decide) ?_
    show Steps p.tables e below (T11.setTop (mkF m 56 #[.val (.long b1), .second, .val (.long b2), .second, .val (.long b3), .second, .val (.long b4), .second, .val (.long q1), .second, .val (.long q2), .second, .val (.long q3), .second, .val (.long q4), .second, .val (.long q9), .second, .unset, .unset, .unset, .unset, .unset, .unset, .unset, .unset, .unset, .unset, .unset, .unset, .unset, .unset] [])) _
    refine XS.lload X11.here hx rfl (hb hby at_56) rfl ?_
    show Steps p.tables e below (T11.setTop (mkF m 58 #[.val (.long b1), .second, .val (.long b2), .second, .val (.long b3), .second, .val (.long b4), .second, .val (.long q1), .second, .val (.long q2), .second, .val (.long q3), .second, .val (.long q4), .second, .val (.long q9), .second, .unset, .unset, .unset, .unset, .unset, .unset, .unset, .unset, .unset, .unset, .unset, .unset, .unset, .unset] [(.long q1)])) _
    refine XS.lload X11.here hx rfl (hb hby at_58) rfl ?_
    show Steps p.tables e below (T11.setTop (mkF m 60 #[.val (.long b1), .second, .val (.long b2), .second, .val (.long b3), .second, .val (.long b4), .second, .val (.long q1), .second, .val (.long q2), .second, .val (.long q3), .second, .val (.long q4), .second, .val (.long q9), .second, .unset, .unset, .unset, .unset, .unset, .unset, .unset, .unset, .unset, .unset, .unset, .unset, .unset, .unset] [(.long q2), (.long q1)])) _
    refine XS.lmul X11.here hx rfl (hb hby at_60) rfl ?_
    show Steps p.tables e below (T11.setTop (mkF m 61 #[.val (.long b1), .second, .val (.long b2), .second, .val (.long b3), .second, .val (.long b4), .second, .val (.long q1), .second, .val (.long q2), .second, .val (.long q3), .second, .val (.long q4), .second, .val (.long q9), .second, .unset, .unset, .unset, .unset, .unset, .unset, .unset, .unset, .unset, .unset, .unset, .unset, .unset, .unset] [(.long (q1 * q2))])) _
    refine XS.lload X11.here hx rfl (hb hby at_61) rfl ?_
    show Steps p.tables e below (T11.setTop (mkF m 63 #[.val (.long b1), .second, .val (.long b2), .second, .val (.long b3), .second, .val (.long b4), .second, .val (.long q1), .second, .val (.long q2), .second, .val (.long q3), .second, .val (.long q4), .second, .val (.long q9), .second, .unset, .unset, .unset, .unset, .unset, .unset, .unset, .unset, .unset, .unset, .unset, .unset, .unset, .unset] [(.long q3), (.long (q1 * q2))])) _
    refine XS.ladd X11.here hx rfl (hb hby at_63) rfl ?_
    exact kt
  obtain ⟨pl, hpl⟩ : ∃ z : Int64, z = ((q1 * q2) + q3) := ⟨_, rfl⟩
  have K14 : ∀ t, Steps p.tables e below (T11.setTop (mkF m 64 #[.val (.long b1), .second, .val (.long b2), .second, .val (.long b3), .second, .val (.long b4), .second, .val (.long q1), .second, .val (.long q2), .second, .val (.long q3), .second, .val (.long q4), .second, .val (.long q9), .second, .unset, .unset, .unset, .unset, .unset, .unset, .unset, .unset, .unset, .unset, .unset, .unset, .unset, .unset] [(.long pl)])) t → Steps p.tables e below (s₁.setTop (entryFrame m #[(.long b1), (.long b2), (.long b3), (.long b4)] maxLocals)) t := by
    rw [hpl]; exact K13
  have K15 : ∀ t, Steps p.tables e below (T11.setTop (mkF m 70 #[.val (.long b1), .second, .val (.long b2), .second, .val (.long b3), .second, .val (.long b4), .second, .val (.long q1), .second, .val (.long q2), .second, .val (.long q3), .second, .val (.long q4), .second, .val (.long q9), .second, .val (.long pl), .second, .unset, .unset, .unset, .unset, .unset, .unset, .unset, .unset, .unset, .unset, .unset, .unset] [(.long q2), (.long q1)])) t → Steps p.tables e below (s₁.setTop (entryFrame m #[(.long b1), (.long b2), (.long b3), (.long b4)] maxLocals)) t := by
    intro t kt
    refine K14 t ?_
    show Steps p.tables e below (T11.setTop (mkF m 64 #[.val (.long b1), .second, .val (.long b2), .second, .val (.long b3), .second, .val (.long b4), .second, .val (.long q1), .second, .val (.long q2), .second, .val (.long q3), .second, .val (.long q4), .second, .val (.long q9), .second, .unset, .unset, .unset, .unset, .unset, .unset, .unset, .unset, .unset, .unset, .unset, .unset, .unset, .unset] [(.long pl)])) _
    refine XS.lstore X11.here hx rfl (hb hby at_64) rfl (l' := #[.val (.long b1), .second, .val (.long b2), .second, .val (.long b3), .second, .val (.long b4), .second, .val (.long q1), .second, .val (.long q2), .second, .val (.long q3), .second, .val (.long q4), .second, .val (.long q9), .second, .val (.long pl), .second, .unset, .unset, .unset, .unset, .unset, .unset, .unset, .unset, .unset, .unset, .unset, .unset]) rfl ?_
    show Steps p.tables e below (T11.setTop (mkF m 66 #[.val (.long b1), .second, .val (.long b2), .second, .val (.long b3), .second, .val (.long b4), .second, .val (.long q1), .second, .val (.long q2), .second, .val (.long q3), .second, .val (.long q4), .second, .val (.long q9), .second, .val (.long pl), .second, .unset, .unset, .unset, .unset, .unset, .unset, .unset, .unset, .unset, .unset, .unset, .unset] [])) _
    refine XS.lload X11.here hx rfl (hb hby at_66) rfl ?_
    show Steps p.tables e below (T11.setTop (mkF m 68 #[.val (.long b1), .second, .val (.long b2), .second, .val (.long b3), .second, .val (.long b4), .second, .val (.long q1), .second, .val (.long q2), .second, .val (.long q3), .second, .val (.long q4), .second, .val (.long q9), .second, .val (.long pl), .second, .unset, .unset, .unset, .unset, .unset, .unset, .unset, .unset, .unset, .unset, .unset, .unset] [(.long q1)])) _
    refine XS.lload X11.here hx rfl (hb hby at_68) rfl ?_
    exact kt
  obtain ⟨_, _, ⟨T16, L16, k16, n16⟩, -, X16, ⟨Lc16, hQ16, l16, y16, z16⟩, st16⟩ := Jvm.LawKit.callS X11 hx (y := (⟨"com/example/limtok/limtok/ExactMathMultiplyDividePinLaw", "mulHi", "(JJ)J"⟩ : MethodName)) hown (mvT hZ (hw _ (List.mem_of_getElem? (i := 13) rfl))) (mvT hZ (hw _ (List.mem_of_getElem? (i := 14) rfl))) (mvT hZ (hw _ (List.mem_of_getElem? (i := 15) rfl))) (mvT hZ (hw _ (List.mem_of_getElem? (i := 16) rfl))) (by decide) (backOf (W := 0) (rm4 l Z a0 hw [] q1 q2 h0 n0 Z0 p1 p2) hZ (hw _ (List.mem_of_getElem? (i := 16) rfl)) (hw _ (List.mem_of_getElem? (i := 15) rfl)) (by decide) (by decide)) (g := (mkF m 70 #[.val (.long b1), .second, .val (.long b2), .second, .val (.long b3), .second, .val (.long b4), .second, .val (.long q1), .second, .val (.long q2), .second, .val (.long q3), .second, .val (.long q4), .second, .val (.long q9), .second, .val (.long pl), .second, .unset, .unset, .unset, .unset, .unset, .unset, .unset, .unset, .unset, .unset, .unset, .unset] [(.long q2), (.long q1)])) rfl (by rw [hml]; rfl) (argsL := [(.long q1), (.long q2)]) (rest := []) (lenOf pd_1 rfl) rfl (by show 2 * 0 + _ ≤ _; exact Nat.le_of_eq rfl) (hb hby at_70) (fun _ _ => ⟨rfl, e11, (by decide : 0 + 0 ≤ _), (by decide : 0 + 0 ≤ _)⟩)
  dsimp only [Pt.U, Pt.locs, Pt.cells, Pt.slots] at X16 l16 y16 z16 st16 hQ16
  subst l16 y16 z16
  obtain ⟨m1, rfl, hm1, Nq16, e16⟩ := hQ16
  have N16 := Fr.app N11 Nq16
  have K17 : ∀ t, Steps p.tables e below (T16.setTop (mkF m 73 #[.val (.long b1), .second, .val (.long b2), .second, .val (.long b3), .second, .val (.long b4), .second, .val (.long q1), .second, .val (.long q2), .second, .val (.long q3), .second, .val (.long q4), .second, .val (.long q9), .second, .val (.long pl), .second, .unset, .unset, .unset, .unset, .unset, .unset, .unset, .unset, .unset, .unset, .unset, .unset] [(.long m1)])) t → Steps p.tables e below (s₁.setTop (entryFrame m #[(.long b1), (.long b2), (.long b3), (.long b4)] maxLocals)) t := fun t kt => K15 t (st16 t kt)
  have K18 : ∀ t, Steps p.tables e below (T16.setTop (mkF m 77 #[.val (.long b1), .second, .val (.long b2), .second, .val (.long b3), .second, .val (.long b4), .second, .val (.long q1), .second, .val (.long q2), .second, .val (.long q3), .second, .val (.long q4), .second, .val (.long q9), .second, .val (.long pl), .second, .unset, .unset, .unset, .unset, .unset, .unset, .unset, .unset, .unset, .unset, .unset, .unset] [(.long q3), (.long pl), (.long m1)])) t → Steps p.tables e below (s₁.setTop (entryFrame m #[(.long b1), (.long b2), (.long b3), (.long b4)] maxLocals)) t := by
    intro t kt
    refine K17 t ?_
    show Steps p.tables e below (T16.setTop (mkF m 73 #[.val (.long b1), .second, .val (.long b2), .second, .val (.long b3), .second, .val (.long b4), .second, .val (.long q1), .second, .val (.long q2), .second, .val (.long q3), .second, .val (.long q4), .second, .val (.long q9), .second, .val (.long pl), .second, .unset, .unset, .unset, .unset, .unset, .unset, .unset, .unset, .unset, .unset, .unset, .unset] [(.long m1)])) _
    refine XS.lload X16.here hx rfl (hb hby at_73) rfl ?_
    show Steps p.tables e below (T16.setTop (mkF m 75 #[.val (.long b1), .second, .val (.long b2), .second, .val (.long b3), .second, .val (.long b4), .second, .val (.long q1), .second, .val (.long q2), .second, .val (.long q3), .second, .val (.long q4), .second, .val (.long q9), .second, .val (.long pl), .second, .unset, .unset, .unset, .unset, .unset, .unset, .unset, .unset, .unset, .unset, .unset, .unset] [(.long pl), (.long m1)])) _
    refine XS.lload X16.here hx rfl (hb hby at_75) rfl ?_
    exact kt
  obtain ⟨_, _, ⟨T19, L19, k19, n19⟩, -, X19, ⟨Lc19, hQ19, l19, y19, z19⟩, st19⟩ := Jvm.LawKit.callS X16 hx (y := (⟨"com/example/limtok/limtok/ExactMathMultiplyDividePinLaw", "ult", "(JJ)Z"⟩ : MethodName)) hown (mvT hZ (hw _ (List.mem_of_getElem? (i := 18) rfl))) (mvT hZ (hw _ (List.mem_of_getElem? (i := 19) rfl))) (mvT hZ (hw _ (List.mem_of_getElem? (i := 15) rfl))) (mvT hZ (hw _ (List.mem_of_getElem? (i := 20) rfl))) (by decide) (backOf (W := 2) (rm5 l Z a0 hw [] pl q3 h0 n0 Z0) hZ (hw _ (List.mem_of_getElem? (i := 20) rfl)) (hw _ (List.mem_of_getElem? (i := 15) rfl)) (by decide) (by decide)) (g := (mkF m 77 #[.val (.long b1), .second, .val (.long b2), .second, .val (.long b3), .second, .val (.long b4), .second, .val (.long q1), .second, .val (.long q2), .second, .val (.long q3), .second, .val (.long q4), .second, .val (.long q9), .second, .val (.long pl), .second, .unset, .unset, .unset, .unset, .unset, .unset, .unset, .unset, .unset, .unset, .unset, .unset] [(.long q3), (.long pl), (.long m1)])) rfl (by rw [hml]; rfl) (argsL := [(.long pl), (.long q3)]) (rest := [(.long m1)]) (lenOf pd_4 rfl) rfl (by show 2 * 0 + _ ≤ _; exact Nat.le_of_eq rfl) (hb hby at_77) (fun _ _ => ⟨rfl, e16, (by decide : 0 + 0 ≤ _), (by decide : 0 + 0 ≤ _)⟩)
  dsimp only [Pt.U, Pt.locs, Pt.cells, Pt.slots] at X19 l19 y19 z19 st19 hQ19
  subst l19 y19 z19
  obtain ⟨u1, rfl, hu1, Nq19, e19⟩ := hQ19
  have N19 := Fr.app N16 Nq19
  have K20 : ∀ t, Steps p.tables e below (T19.setTop (mkF m 80 #[.val (.long b1), .second, .val (.long b2), .second, .val (.long b3), .second, .val (.long b4), .second, .val (.long q1), .second, .val (.long q2), .second, .val (.long q3), .second, .val (.long q4), .second, .val (.long q9), .second, .val (.long pl), .second, .unset, .unset, .unset, .unset, .unset, .unset, .unset, .unset, .unset, .unset, .unset, .unset] [(.int u1), (.long m1)])) t → Steps p.tables e below (s₁.setTop (entryFrame m #[(.long b1), (.long b2), (.long b3), (.long b4)] maxLocals)) t := fun t kt => K18 t (st19 t kt)
  obtain ⟨ph, hph, Kjph⟩ : ∃ z : Int64, Cy m1 pl q3 z ∧ (∀ t, Steps p.tables e below (T19.setTop (mkF m 89 #[.val (.long b1), .second, .val (.long b2), .second, .val (.long b3), .second, .val (.long b4), .second, .val (.long q1), .second, .val (.long q2), .second, .val (.long q3), .second, .val (.long q4), .second, .val (.long q9), .second, .val (.long pl), .second, .unset, .unset, .unset, .unset, .unset, .unset, .unset, .unset, .unset, .unset, .unset, .unset] [(.long z)])) t → Steps p.tables e below (s₁.setTop (entryFrame m #[(.long b1), (.long b2), (.long b3), (.long b4)] maxLocals)) t) := by
    by_cases hc : u1 = (0 : Int32)
    · have K21 : ∀ t, Steps p.tables e below (T19.setTop (mkF m 89 #[.val (.long b1), .second, .val (.long b2), .second, .val (.long b3), .second, .val (.long b4), .second, .val (.long q1), .second, .val (.long q2), .second, .val (.long q3), .second, .val (.long q4), .second, .val (.long q9), .second, .val (.long pl), .second, .unset, .unset, .unset, .unset, .unset, .unset, .unset, .unset, .unset, .unset, .unset, .unset] [(.long (m1 + (0 : Int64)))])) t → Steps p.tables e below (s₁.setTop (entryFrame m #[(.long b1), (.long b2), (.long b3), (.long b4)] maxLocals)) t := by
        intro t kt
        refine K20 t ?_
        show Steps p.tables e below (T19.setTop (mkF m 80 #[.val (.long b1), .second, .val (.long b2), .second, .val (.long b3), .second, .val (.long b4), .second, .val (.long q1), .second, .val (.long q2), .second, .val (.long q3), .second, .val (.long q4), .second, .val (.long q9), .second, .val (.long pl), .second, .unset, .unset, .unset, .unset, .unset, .unset, .unset, .unset, .unset, .unset, .unset, .unset] [(.int u1), (.long m1)])) _
        refine XS.ifYes X19.here hx rfl (pc0 := 80) (pc' := 87) rfl (hb hby at_80) rfl ((if0 _ _).trans (teq (hc : u1 = (0 : Int32))).1) (by decide) (by decide) ?_
        show Steps p.tables e below (T19.setTop (mkF m 87 #[.val (.long b1), .second, .val (.long b2), .second, .val (.long b3), .second, .val (.long b4), .second, .val (.long q1), .second, .val (.long q2), .second, .val (.long q3), .second, .val (.long q4), .second, .val (.long q9), .second, .val (.long pl), .second, .unset, .unset, .unset, .unset, .unset, .unset, .unset, .unset, .unset, .unset, .unset, .unset] [(.long m1)])) _
        refine XS.lconst X19.here hx rfl (hb hby at_87) ?_
        show Steps p.tables e below (T19.setTop (mkF m 88 #[.val (.long b1), .second, .val (.long b2), .second, .val (.long b3), .second, .val (.long b4), .second, .val (.long q1), .second, .val (.long q2), .second, .val (.long q3), .second, .val (.long q4), .second, .val (.long q9), .second, .val (.long pl), .second, .unset, .unset, .unset, .unset, .unset, .unset, .unset, .unset, .unset, .unset, .unset, .unset] [(.long (0 : Int64)), (.long m1)])) _
        refine XS.ladd X19.here hx rfl (hb hby at_88) rfl ?_
        exact kt
      exact ⟨_, own_carry0 hu1 hc, K21⟩
    · have K22 : ∀ t, Steps p.tables e below (T19.setTop (mkF m 89 #[.val (.long b1), .second, .val (.long b2), .second, .val (.long b3), .second, .val (.long b4), .second, .val (.long q1), .second, .val (.long q2), .second, .val (.long q3), .second, .val (.long q4), .second, .val (.long q9), .second, .val (.long pl), .second, .unset, .unset, .unset, .unset, .unset, .unset, .unset, .unset, .unset, .unset, .unset, .unset] [(.long (m1 + (1 : Int64)))])) t → Steps p.tables e below (s₁.setTop (entryFrame m #[(.long b1), (.long b2), (.long b3), (.long b4)] maxLocals)) t := by
        intro t kt
        refine K20 t ?_
        show Steps p.tables e below (T19.setTop (mkF m 80 #[.val (.long b1), .second, .val (.long b2), .second, .val (.long b3), .second, .val (.long b4), .second, .val (.long q1), .second, .val (.long q2), .second, .val (.long q3), .second, .val (.long q4), .second, .val (.long q9), .second, .val (.long pl), .second, .unset, .unset, .unset, .unset, .unset, .unset, .unset, .unset, .unset, .unset, .unset, .unset] [(.int u1), (.long m1)])) _
        refine XS.ifNo X19.here hx rfl (hb hby at_80) rfl ((if0 _ _).trans (feq (hc : ¬ (u1 = (0 : Int32)))).1) ?_
        show Steps p.tables e below (T19.setTop (mkF m 83 #[.val (.long b1), .second, .val (.long b2), .second, .val (.long b3), .second, .val (.long b4), .second, .val (.long q1), .second, .val (.long q2), .second, .val (.long q3), .second, .val (.long q4), .second, .val (.long q9), .second, .val (.long pl), .second, .unset, .unset, .unset, .unset, .unset, .unset, .unset, .unset, .unset, .unset, .unset, .unset] [(.long m1)])) _
        refine XS.lconst X19.here hx rfl (hb hby at_83) ?_
        show Steps p.tables e below (T19.setTop (mkF m 84 #[.val (.long b1), .second, .val (.long b2), .second, .val (.long b3), .second, .val (.long b4), .second, .val (.long q1), .second, .val (.long q2), .second, .val (.long q3), .second, .val (.long q4), .second, .val (.long q9), .second, .val (.long pl), .second, .unset, .unset, .unset, .unset, .unset, .unset, .unset, .unset, .unset, .unset, .unset, .unset] [(.long (1 : Int64)), (.long m1)])) _
        refine XS.goto X19.here hx rfl (pc0 := 84) (pc' := 88) rfl (hb hby at_84) (by decide) (by decide) ?_
        show Steps p.tables e below (T19.setTop (mkF m 88 #[.val (.long b1), .second, .val (.long b2), .second, .val (.long b3), .second, .val (.long b4), .second, .val (.long q1), .second, .val (.long q2), .second, .val (.long q3), .second, .val (.long q4), .second, .val (.long q9), .second, .val (.long pl), .second, .unset, .unset, .unset, .unset, .unset, .unset, .unset, .unset, .unset, .unset, .unset, .unset] [(.long (1 : Int64)), (.long m1)])) _
        refine XS.ladd X19.here hx rfl (hb hby at_88) rfl ?_
        exact kt
      exact ⟨_, own_carry1 hu1 hc, K22⟩
  have K23 : ∀ t, Steps p.tables e below (T19.setTop (mkF m 89 #[.val (.long b1), .second, .val (.long b2), .second, .val (.long b3), .second, .val (.long b4), .second, .val (.long q1), .second, .val (.long q2), .second, .val (.long q3), .second, .val (.long q4), .second, .val (.long q9), .second, .val (.long pl), .second, .unset, .unset, .unset, .unset, .unset, .unset, .unset, .unset, .unset, .unset, .unset, .unset] [(.long ph)])) t → Steps p.tables e below (s₁.setTop (entryFrame m #[(.long b1), (.long b2), (.long b3), (.long b4)] maxLocals)) t := Kjph
  have hP : HL q1 q2 q3 ph pl := own_hlc p1 p2 p3 hm1 hpl hph
  have K24 : ∀ t, Steps p.tables e below (T19.setTop (mkF m 96 #[.val (.long b1), .second, .val (.long b2), .second, .val (.long b3), .second, .val (.long b4), .second, .val (.long q1), .second, .val (.long q2), .second, .val (.long q3), .second, .val (.long q4), .second, .val (.long q9), .second, .val (.long pl), .second, .val (.long ph), .second, .unset, .unset, .unset, .unset, .unset, .unset, .unset, .unset, .unset, .unset] [(.long (q9 * q4))])) t → Steps p.tables e below (s₁.setTop (entryFrame m #[(.long b1), (.long b2), (.long b3), (.long b4)] maxLocals)) t := by
    intro t kt
    refine K23 t ?_
    show Steps p.tables e below (T19.setTop (mkF m 89 #[.val (.long b1), .second, .val (.long b2), .second, .val (.long b3), .second, .val (.long b4), .second, .val (.long q1), .second, .val (.long q2), .second, .val (.long q3), .second, .val (.long q4), .second, .val (.long q9), .second, .val (.long pl), .second, .unset, .unset, .unset, .unset, .unset, .unset, .unset, .unset, .unset, .unset, .unset, .unset] [(.long ph)])) _
    refine XS.lstore X19.here hx rfl (hb hby at_89) rfl (l' := #[.val (.long b1), .second, .val (.long b2), .second, .val (.long b3), .second, .val (.long b4), .second, .val (.long q1), .second, .val (.long q2), .second, .val (.long q3), .second, .val (.long q4), .second, .val (.long q9), .second, .val (.long pl), .second, .val (.long ph), .second, .unset, .unset, .unset, .unset, .unset, .unset, .unset, .unset, .unset, .unset]) rfl ?_
    show Steps p.tables e below (T19.setTop (mkF m 91 #[.val (.long b1), .second, .val (.long b2), .second, .val (.long b3), .second, .val (.long b4), .second, .val (.long q1), .second, .val (.long q2), .second, .val (.long q3), .second, .val (.long q4), .second, .val (.long q9), .second, .val (.long pl), .second, .val (.long ph), .second, .unset, .unset, .unset, .unset, .unset, .unset, .unset, .unset, .unset, .unset] [])) _
    refine XS.lload X19.here hx rfl (hb hby at_91) rfl ?_
    show Steps p.tables e below (T19.setTop (mkF m 93 #[.val (.long b1), .second, .val (.long b2), .second, .val (.long b3), .second, .val (.long b4), .second, .val (.long q1), .second, .val (.long q2), .second, .val (.long q3), .second, .val (.long q4), .second, .val (.long q9), .second, .val (.long pl), .second, .val (.long ph), .second, .unset, .unset, .unset, .unset, .unset, .unset, .unset, .unset, .unset, .unset] [(.long q9)])) _
    refine XS.lload X19.here hx rfl (hb hby at_93) rfl ?_
    show Steps p.tables e below (T19.setTop (mkF m 95 #[.val (.long b1), .second, .val (.long b2), .second, .val (.long b3), .second, .val (.long b4), .second, .val (.long q1), .second, .val (.long q2), .second, .val (.long q3), .second, .val (.long q4), .second, .val (.long q9), .second, .val (.long pl), .second, .val (.long ph), .second, .unset, .unset, .unset, .unset, .unset, .unset, .unset, .unset, .unset, .unset] [(.long q4), (.long q9)])) _
    refine XS.lmul X19.here hx rfl (hb hby at_95) rfl ?_
    exact kt
  obtain ⟨ql, hql⟩ : ∃ z : Int64, z = (q9 * q4) := ⟨_, rfl⟩
  have K25 : ∀ t, Steps p.tables e below (T19.setTop (mkF m 96 #[.val (.long b1), .second, .val (.long b2), .second, .val (.long b3), .second, .val (.long b4), .second, .val (.long q1), .second, .val (.long q2), .second, .val (.long q3), .second, .val (.long q4), .second, .val (.long q9), .second, .val (.long pl), .second, .val (.long ph), .second, .unset, .unset, .unset, .unset, .unset, .unset, .unset, .unset, .unset, .unset] [(.long ql)])) t → Steps p.tables e below (s₁.setTop (entryFrame m #[(.long b1), (.long b2), (.long b3), (.long b4)] maxLocals)) t := by
    rw [hql]; exact K24
  have K26 : ∀ t, Steps p.tables e below (T19.setTop (mkF m 102 #[.val (.long b1), .second, .val (.long b2), .second, .val (.long b3), .second, .val (.long b4), .second, .val (.long q1), .second, .val (.long q2), .second, .val (.long q3), .second, .val (.long q4), .second, .val (.long q9), .second, .val (.long pl), .second, .val (.long ph), .second, .val (.long ql), .second, .unset, .unset, .unset, .unset, .unset, .unset, .unset, .unset] [(.long q4), (.long q9)])) t → Steps p.tables e below (s₁.setTop (entryFrame m #[(.long b1), (.long b2), (.long b3), (.long b4)] maxLocals)) t := by
    intro t kt
    refine K25 t ?_
    show Steps p.tables e below (T19.setTop (mkF m 96 #[.val (.long b1), .second, .val (.long b2), .second, .val (.long b3), .second, .val (.long b4), .second, .val (.long q1), .second, .val (.long q2), .second, .val (.long q3), .second, .val (.long q4), .second, .val (.long q9), .second, .val (.long pl), .second, .val (.long ph), .second, .unset, .unset, .unset, .unset, .unset, .unset, .unset, .unset, .unset, .unset] [(.long ql)])) _
    refine XS.lstore X19.here hx rfl (hb hby at_96) rfl (l' := #[.val (.long b1), .second, .val (.long b2), .second, .val (.long b3), .second, .val (.long b4), .second, .val (.long q1), .second, .val (.long q2), .second, .val (.long q3), .second, .val (.long q4), .second, .val (.long q9), .second, .val (.long pl), .second, .val (.long ph), .second, .val (.long ql), .second, .unset, .unset, .unset, .unset, .unset, .unset, .unset, .unset]) rfl ?_
    show Steps p.tables e below (T19.setTop (mkF m 98 #[.val (.long b1), .second, .val (.long b2), .second, .val (.long b3), .second, .val (.long b4), .second, .val (.long q1), .second, .val (.long q2), .second, .val (.long q3), .second, .val (.long q4), .second, .val (.long q9), .second, .val (.long pl), .second, .val (.long ph), .second, .val (.long ql), .second, .unset, .unset, .unset, .unset, .unset, .unset, .unset, .unset] [])) _
    refine XS.lload X19.here hx rfl (hb hby at_98) rfl ?_
    show Steps p.tables e below (T19.setTop (mkF m 100 #[.val (.long b1), .second, .val (.long b2), .second, .val (.long b3), .second, .val (.long b4), .second, .val (.long q1), .second, .val (.long q2), .second, .val (.long q3), .second, .val (.long q4), .second, .val (.long q9), .second, .val (.long pl), .second, .val (.long ph), .second, .val (.long ql), .second, .unset, .unset, .unset, .unset, .unset, .unset, .unset, .unset] [(.long q9)])) _
    refine XS.lload X19.here hx rfl (hb hby at_100) rfl ?_
    exact kt
  obtain ⟨_, _, ⟨T27, L27, k27, n27⟩, -, X27, ⟨Lc27, hQ27, l27, y27, z27⟩, st27⟩ := Jvm.LawKit.callS X19 hx (y := (⟨"com/example/limtok/limtok/ExactMathMultiplyDividePinLaw", "mulHi", "(JJ)J"⟩ : MethodName)) hown (mvT hZ (hw _ (List.mem_of_getElem? (i := 13) rfl))) (mvT hZ (hw _ (List.mem_of_getElem? (i := 14) rfl))) (mvT hZ (hw _ (List.mem_of_getElem? (i := 15) rfl))) (mvT hZ (hw _ (List.mem_of_getElem? (i := 16) rfl))) (by decide) (backOf (W := 0) (rm4 l Z a0 hw [] q9 q4 h0 n0 Z0 (own_md_ge hq9) (own_le01 p4)) hZ (hw _ (List.mem_of_getElem? (i := 16) rfl)) (hw _ (List.mem_of_getElem? (i := 15) rfl)) (by decide) (by decide)) (g := (mkF m 102 #[.val (.long b1), .second, .val (.long b2), .second, .val (.long b3), .second, .val (.long b4), .second, .val (.long q1), .second, .val (.long q2), .second, .val (.long q3), .second, .val (.long q4), .second, .val (.long q9), .second, .val (.long pl), .second, .val (.long ph), .second, .val (.long ql), .second, .unset, .unset, .unset, .unset, .unset, .unset, .unset, .unset] [(.long q4), (.long q9)])) rfl (by rw [hml]; rfl) (argsL := [(.long q9), (.long q4)]) (rest := []) (lenOf pd_1 rfl) rfl (by show 2 * 0 + _ ≤ _; exact Nat.le_of_eq rfl) (hb hby at_102) (fun _ _ => ⟨rfl, e19, (by decide : 0 + 0 ≤ _), (by decide : 0 + 0 ≤ _)⟩)
  dsimp only [Pt.U, Pt.locs, Pt.cells, Pt.slots] at X27 l27 y27 z27 st27 hQ27
  subst l27 y27 z27
  obtain ⟨qh, rfl, hqh, Nq27, e27⟩ := hQ27
  have N27 := Fr.app N19 Nq27
  have K28 : ∀ t, Steps p.tables e below (T27.setTop (mkF m 105 #[.val (.long b1), .second, .val (.long b2), .second, .val (.long b3), .second, .val (.long b4), .second, .val (.long q1), .second, .val (.long q2), .second, .val (.long q3), .second, .val (.long q4), .second, .val (.long q9), .second, .val (.long pl), .second, .val (.long ph), .second, .val (.long ql), .second, .unset, .unset, .unset, .unset, .unset, .unset, .unset, .unset] [(.long qh)])) t → Steps p.tables e below (s₁.setTop (entryFrame m #[(.long b1), (.long b2), (.long b3), (.long b4)] maxLocals)) t := fun t kt => K26 t (st27 t kt)
  have hB : HB q9 q4 qh ql := own_hb (own_md_ge hq9) (own_le01 p4) hqh hql
  have K29 : ∀ t, Steps p.tables e below (T27.setTop (mkF m 112 #[.val (.long b1), .second, .val (.long b2), .second, .val (.long b3), .second, .val (.long b4), .second, .val (.long q1), .second, .val (.long q2), .second, .val (.long q3), .second, .val (.long q4), .second, .val (.long q9), .second, .val (.long pl), .second, .val (.long ph), .second, .val (.long ql), .second, .val (.long qh), .second, .unset, .unset, .unset, .unset, .unset, .unset] [(.int (lcmpW qh ph))])) t → Steps p.tables e below (s₁.setTop (entryFrame m #[(.long b1), (.long b2), (.long b3), (.long b4)] maxLocals)) t := by
    intro t kt
    refine K28 t ?_
    show Steps p.tables e below (T27.setTop (mkF m 105 #[.val (.long b1), .second, .val (.long b2), .second, .val (.long b3), .second, .val (.long b4), .second, .val (.long q1), .second, .val (.long q2), .second, .val (.long q3), .second, .val (.long q4), .second, .val (.long q9), .second, .val (.long pl), .second, .val (.long ph), .second, .val (.long ql), .second, .unset, .unset, .unset, .unset, .unset, .unset, .unset, .unset] [(.long qh)])) _
    refine XS.lstore X27.here hx rfl (hb hby at_105) rfl (l' := #[.val (.long b1), .second, .val (.long b2), .second, .val (.long b3), .second, .val (.long b4), .second, .val (.long q1), .second, .val (.long q2), .second, .val (.long q3), .second, .val (.long q4), .second, .val (.long q9), .second, .val (.long pl), .second, .val (.long ph), .second, .val (.long ql), .second, .val (.long qh), .second, .unset, .unset, .unset, .unset, .unset, .unset]) rfl ?_
    show Steps p.tables e below (T27.setTop (mkF m 107 #[.val (.long b1), .second, .val (.long b2), .second, .val (.long b3), .second, .val (.long b4), .second, .val (.long q1), .second, .val (.long q2), .second, .val (.long q3), .second, .val (.long q4), .second, .val (.long q9), .second, .val (.long pl), .second, .val (.long ph), .second, .val (.long ql), .second, .val (.long qh), .second, .unset, .unset, .unset, .unset, .unset, .unset] [])) _
    refine XS.lload X27.here hx rfl (hb hby at_107) rfl ?_
    show Steps p.tables e below (T27.setTop (mkF m 109 #[.val (.long b1), .second, .val (.long b2), .second, .val (.long b3), .second, .val (.long b4), .second, .val (.long q1), .second, .val (.long q2), .second, .val (.long q3), .second, .val (.long q4), .second, .val (.long q9), .second, .val (.long pl), .second, .val (.long ph), .second, .val (.long ql), .second, .val (.long qh), .second, .unset, .unset, .unset, .unset, .unset, .unset] [(.long qh)])) _
    refine XS.lload X27.here hx rfl (hb hby at_109) rfl ?_
    show Steps p.tables e below (T27.setTop (mkF m 111 #[.val (.long b1), .second, .val (.long b2), .second, .val (.long b3), .second, .val (.long b4), .second, .val (.long q1), .second, .val (.long q2), .second, .val (.long q3), .second, .val (.long q4), .second, .val (.long q9), .second, .val (.long pl), .second, .val (.long ph), .second, .val (.long ql), .second, .val (.long qh), .second, .unset, .unset, .unset, .unset, .unset, .unset] [(.long ph), (.long qh)])) _
    refine XS.lcmp X27.here hx rfl (hb hby at_111) rfl ?_
    exact kt
  by_cases f1 : (lcmpW qh ph) < (0 : Int32)
  · have K30 : ∀ t, Steps p.tables e below (T27.setTop (mkF m 146 #[.val (.long b1), .second, .val (.long b2), .second, .val (.long b3), .second, .val (.long b4), .second, .val (.long q1), .second, .val (.long q2), .second, .val (.long q3), .second, .val (.long q4), .second, .val (.long q9), .second, .val (.long pl), .second, .val (.long ph), .second, .val (.long ql), .second, .val (.long qh), .second, .val (.int (1 : Int32)), .unset, .unset, .unset, .unset, .unset] [(.int (lcmpW q9 (9223372036854775807 : Int64)))])) t → Steps p.tables e below (s₁.setTop (entryFrame m #[(.long b1), (.long b2), (.long b3), (.long b4)] maxLocals)) t := by
      intro t kt
      refine K29 t ?_
      show Steps p.tables e below (T27.setTop (mkF m 112 #[.val (.long b1), .second, .val (.long b2), .second, .val (.long b3), .second, .val (.long b4), .second, .val (.long q1), .second, .val (.long q2), .second, .val (.long q3), .second, .val (.long q4), .second, .val (.long q9), .second, .val (.long pl), .second, .val (.long ph), .second, .val (.long ql), .second, .val (.long qh), .second, .unset, .unset, .unset, .unset, .unset, .unset] [(.int (lcmpW qh ph))])) _
      refine XS.ifYes X27.here hx rfl (pc0 := 112) (pc' := 133) rfl (hb hby at_112) rfl ((if0 _ _).trans (tlt (f1 : (lcmpW qh ph) < (0 : Int32))).1) (by decide) (by decide) ?_
      show Steps p.tables e below (T27.setTop (mkF m 133 #[.val (.long b1), .second, .val (.long b2), .second, .val (.long b3), .second, .val (.long b4), .second, .val (.long q1), .second, .val (.long q2), .second, .val (.long q3), .second, .val (.long q4), .second, .val (.long q9), .second, .val (.long pl), .second, .val (.long ph), .second, .val (.long ql), .second, .val (.long qh), .second, .unset, .unset, .unset, .unset, .unset, .unset] [])) _
      refine XS.iconst X27.here hx rfl (hb hby at_133) ?_
      show Steps p.tables e below (T27.setTop (mkF m 134 #[.val (.long b1), .second, .val (.long b2), .second, .val (.long b3), .second, .val (.long b4), .second, .val (.long q1), .second, .val (.long q2), .second, .val (.long q3), .second, .val (.long q4), .second, .val (.long q9), .second, .val (.long pl), .second, .val (.long ph), .second, .val (.long ql), .second, .val (.long qh), .second, .unset, .unset, .unset, .unset, .unset, .unset] [(.int (1 : Int32))])) _
      refine XS.goto X27.here hx rfl (pc0 := 134) (pc' := 138) rfl (hb hby at_134) (by decide) (by decide) ?_
      show Steps p.tables e below (T27.setTop (mkF m 138 #[.val (.long b1), .second, .val (.long b2), .second, .val (.long b3), .second, .val (.long b4), .second, .val (.long q1), .second, .val (.long q2), .second, .val (.long q3), .second, .val (.long q4), .second, .val (.long q9), .second, .val (.long pl), .second, .val (.long ph), .second, .val (.long ql), .second, .val (.long qh), .second, .unset, .unset, .unset, .unset, .unset, .unset] [(.int (1 : Int32))])) _
      refine XS.istore X27.here hx rfl (hb hby at_138) rfl (l' := #[.val (.long b1), .second, .val (.long b2), .second, .val (.long b3), .second, .val (.long b4), .second, .val (.long q1), .second, .val (.long q2), .second, .val (.long q3), .second, .val (.long q4), .second, .val (.long q9), .second, .val (.long pl), .second, .val (.long ph), .second, .val (.long ql), .second, .val (.long qh), .second, .val (.int (1 : Int32)), .unset, .unset, .unset, .unset, .unset]) rfl ?_
      show Steps p.tables e below (T27.setTop (mkF m 140 #[.val (.long b1), .second, .val (.long b2), .second, .val (.long b3), .second, .val (.long b4), .second, .val (.long q1), .second, .val (.long q2), .second, .val (.long q3), .second, .val (.long q4), .second, .val (.long q9), .second, .val (.long pl), .second, .val (.long ph), .second, .val (.long ql), .second, .val (.long qh), .second, .val (.int (1 : Int32)), .unset, .unset, .unset, .unset, .unset] [])) _
      refine XS.lload X27.here hx rfl (hb hby at_140) rfl ?_
      show Steps p.tables e below (T27.setTop (mkF m 142 #[.val (.long b1), .second, .val (.long b2), .second, .val (.long b3), .second, .val (.long b4), .second, .val (.long q1), .second, .val (.long q2), .second, .val (.long q3), .second, .val (.long q4), .second, .val (.long q9), .second, .val (.long pl), .second, .val (.long ph), .second, .val (.long ql), .second, .val (.long qh), .second, .val (.int (1 : Int32)), .unset, .unset, .unset, .unset, .unset] [(.long q9)])) _
      refine X27.ldc2Long hx hown (mvT hZ (hw _ (List.mem_of_getElem? (i := 0) rfl))) (g := (mkF m 142 #[.val (.long b1), .second, .val (.long b2), .second, .val (.long b3), .second, .val (.long b4), .second, .val (.long q1), .second, .val (.long q2), .second, .val (.long q3), .second, .val (.long q4), .second, .val (.long q9), .second, .val (.long pl), .second, .val (.long ph), .second, .val (.long ql), .second, .val (.long qh), .second, .val (.int (1 : Int32)), .unset, .unset, .unset, .unset, .unset] [(.long q9)])) rfl (hb hby at_142) _ ?_
      show Steps p.tables e below (T27.setTop (mkF m 145 #[.val (.long b1), .second, .val (.long b2), .second, .val (.long b3), .second, .val (.long b4), .second, .val (.long q1), .second, .val (.long q2), .second, .val (.long q3), .second, .val (.long q4), .second, .val (.long q9), .second, .val (.long pl), .second, .val (.long ph), .second, .val (.long ql), .second, .val (.long qh), .second, .val (.int (1 : Int32)), .unset, .unset, .unset, .unset, .unset] [(.long (9223372036854775807 : Int64)), (.long q9)])) _
      refine XS.lcmp X27.here hx rfl (hb hby at_145) rfl ?_
      exact kt
    by_cases hM : (lcmpW q9 (9223372036854775807 : Int64)) = (0 : Int32)
    · have K31 : ∀ t, Steps p.tables e below (T27.setTop (mkF m 151 #[.val (.long b1), .second, .val (.long b2), .second, .val (.long b3), .second, .val (.long b4), .second, .val (.long q1), .second, .val (.long q2), .second, .val (.long q3), .second, .val (.long q4), .second, .val (.long q9), .second, .val (.long pl), .second, .val (.long ph), .second, .val (.long ql), .second, .val (.long qh), .second, .val (.int (1 : Int32)), .unset, .unset, .unset, .unset, .unset] [(.int (1 : Int32))])) t → Steps p.tables e below (s₁.setTop (entryFrame m #[(.long b1), (.long b2), (.long b3), (.long b4)] maxLocals)) t := by
        intro t kt
        refine K30 t ?_
        show Steps p.tables e below (T27.setTop (mkF m 146 #[.val (.long b1), .second, .val (.long b2), .second, .val (.long b3), .second, .val (.long b4), .second, .val (.long q1), .second, .val (.long q2), .second, .val (.long q3), .second, .val (.long q4), .second, .val (.long q9), .second, .val (.long pl), .second, .val (.long ph), .second, .val (.long ql), .second, .val (.long qh), .second, .val (.int (1 : Int32)), .unset, .unset, .unset, .unset, .unset] [(.int (lcmpW q9 (9223372036854775807 : Int64)))])) _
        refine XS.ifNo X27.here hx rfl (hb hby at_146) rfl ((if0 _ _).trans (teq (hM : (lcmpW q9 (9223372036854775807 : Int64)) = (0 : Int32))).2) ?_
        show Steps p.tables e below (T27.setTop (mkF m 149 #[.val (.long b1), .second, .val (.long b2), .second, .val (.long b3), .second, .val (.long b4), .second, .val (.long q1), .second, .val (.long q2), .second, .val (.long q3), .second, .val (.long q4), .second, .val (.long q9), .second, .val (.long pl), .second, .val (.long ph), .second, .val (.long ql), .second, .val (.long qh), .second, .val (.int (1 : Int32)), .unset, .unset, .unset, .unset, .unset] [])) _
        refine XS.iload X27.here hx rfl (hb hby at_149) rfl ?_
        exact kt
      obtain ⟨fs, hr, hrun, hended, hW, hsame⟩ := X27.leave (v := some (.int (1 : Int32))) (fun h => by rw [Bd.returns] at h; cases h) (hlocks := hlk)
      refine ⟨_, _, K31 _ ?_, hrun, hended, _, _, rfl, ?_, ⟨_, rfl⟩, hW, hsame.mono (by decide) (by decide)⟩
      · exact retN X27 hx (t := .boolean) Bd.returns (by simp) (hb hby at_151) hr
      · show Qrm0 b1 b2 b3 b4 h0 n0 _ T27.heap _
        rw [e27]
        exact ⟨rfl, N27⟩
    · have K32 : ∀ t, Steps p.tables e below (T27.setTop (mkF m 152 #[.val (.long b1), .second, .val (.long b2), .second, .val (.long b3), .second, .val (.long b4), .second, .val (.long q1), .second, .val (.long q2), .second, .val (.long q3), .second, .val (.long q4), .second, .val (.long q9), .second, .val (.long pl), .second, .val (.long ph), .second, .val (.long ql), .second, .val (.long qh), .second, .val (.int (1 : Int32)), .unset, .unset, .unset, .unset, .unset] [])) t → Steps p.tables e below (s₁.setTop (entryFrame m #[(.long b1), (.long b2), (.long b3), (.long b4)] maxLocals)) t := by
        intro t kt
        refine K30 t ?_
        show Steps p.tables e below (T27.setTop (mkF m 146 #[.val (.long b1), .second, .val (.long b2), .second, .val (.long b3), .second, .val (.long b4), .second, .val (.long q1), .second, .val (.long q2), .second, .val (.long q3), .second, .val (.long q4), .second, .val (.long q9), .second, .val (.long pl), .second, .val (.long ph), .second, .val (.long ql), .second, .val (.long qh), .second, .val (.int (1 : Int32)), .unset, .unset, .unset, .unset, .unset] [(.int (lcmpW q9 (9223372036854775807 : Int64)))])) _
        refine XS.ifYes X27.here hx rfl (pc0 := 146) (pc' := 152) rfl (hb hby at_146) rfl ((if0 _ _).trans (feq (hM : ¬ ((lcmpW q9 (9223372036854775807 : Int64)) = (0 : Int32)))).2) (by decide) (by decide) ?_
        exact kt
      have hlt := own_ltS hq9 (fun z => hM ((lw_eq _ _).mpr z))
      have K33 : ∀ t, Steps p.tables e below (T27.setTop (mkF m 157 #[.val (.long b1), .second, .val (.long b2), .second, .val (.long b3), .second, .val (.long b4), .second, .val (.long q1), .second, .val (.long q2), .second, .val (.long q3), .second, .val (.long q4), .second, .val (.long q9), .second, .val (.long pl), .second, .val (.long ph), .second, .val (.long ql), .second, .val (.long qh), .second, .val (.int (1 : Int32)), .unset, .unset, .unset, .unset, .unset] [(.long (ql + q4))])) t → Steps p.tables e below (s₁.setTop (entryFrame m #[(.long b1), (.long b2), (.long b3), (.long b4)] maxLocals)) t := by
        intro t kt
        refine K32 t ?_
        show Steps p.tables e below (T27.setTop (mkF m 152 #[.val (.long b1), .second, .val (.long b2), .second, .val (.long b3), .second, .val (.long b4), .second, .val (.long q1), .second, .val (.long q2), .second, .val (.long q3), .second, .val (.long q4), .second, .val (.long q9), .second, .val (.long pl), .second, .val (.long ph), .second, .val (.long ql), .second, .val (.long qh), .second, .val (.int (1 : Int32)), .unset, .unset, .unset, .unset, .unset] [])) _
        refine XS.lload X27.here hx rfl (hb hby at_152) rfl ?_
        show Steps p.tables e below (T27.setTop (mkF m 154 #[.val (.long b1), .second, .val (.long b2), .second, .val (.long b3), .second, .val (.long b4), .second, .val (.long q1), .second, .val (.long q2), .second, .val (.long q3), .second, .val (.long q4), .second, .val (.long q9), .second, .val (.long pl), .second, .val (.long ph), .second, .val (.long ql), .second, .val (.long qh), .second, .val (.int (1 : Int32)), .unset, .unset, .unset, .unset, .unset] [(.long ql)])) _
        refine XS.lload X27.here hx rfl (hb hby at_154) rfl ?_
        show Steps p.tables e below (T27.setTop (mkF m 156 #[.val (.long b1), .second, .val (.long b2), .second, .val (.long b3), .second, .val (.long b4), .second, .val (.long q1), .second, .val (.long q2), .second, .val (.long q3), .second, .val (.long q4), .second, .val (.long q9), .second, .val (.long pl), .second, .val (.long ph), .second, .val (.long ql), .second, .val (.long qh), .second, .val (.int (1 : Int32)), .unset, .unset, .unset, .unset, .unset] [(.long q4), (.long ql)])) _
        refine XS.ladd X27.here hx rfl (hb hby at_156) rfl ?_
        exact kt
      obtain ⟨sl, hsl⟩ : ∃ z : Int64, z = (ql + q4) := ⟨_, rfl⟩
      have K34 : ∀ t, Steps p.tables e below (T27.setTop (mkF m 157 #[.val (.long b1), .second, .val (.long b2), .second, .val (.long b3), .second, .val (.long b4), .second, .val (.long q1), .second, .val (.long q2), .second, .val (.long q3), .second, .val (.long q4), .second, .val (.long q9), .second, .val (.long pl), .second, .val (.long ph), .second, .val (.long ql), .second, .val (.long qh), .second, .val (.int (1 : Int32)), .unset, .unset, .unset, .unset, .unset] [(.long sl)])) t → Steps p.tables e below (s₁.setTop (entryFrame m #[(.long b1), (.long b2), (.long b3), (.long b4)] maxLocals)) t := by
        rw [hsl]; exact K33
      have K35 : ∀ t, Steps p.tables e below (T27.setTop (mkF m 165 #[.val (.long b1), .second, .val (.long b2), .second, .val (.long b3), .second, .val (.long b4), .second, .val (.long q1), .second, .val (.long q2), .second, .val (.long q3), .second, .val (.long q4), .second, .val (.long q9), .second, .val (.long pl), .second, .val (.long ph), .second, .val (.long ql), .second, .val (.long qh), .second, .val (.int (1 : Int32)), .val (.long sl), .second, .unset, .unset, .unset] [(.long q4), (.long sl), (.long qh)])) t → Steps p.tables e below (s₁.setTop (entryFrame m #[(.long b1), (.long b2), (.long b3), (.long b4)] maxLocals)) t := by
        intro t kt
        refine K34 t ?_
        show Steps p.tables e below (T27.setTop (mkF m 157 #[.val (.long b1), .second, .val (.long b2), .second, .val (.long b3), .second, .val (.long b4), .second, .val (.long q1), .second, .val (.long q2), .second, .val (.long q3), .second, .val (.long q4), .second, .val (.long q9), .second, .val (.long pl), .second, .val (.long ph), .second, .val (.long ql), .second, .val (.long qh), .second, .val (.int (1 : Int32)), .unset, .unset, .unset, .unset, .unset] [(.long sl)])) _
        refine XS.lstore X27.here hx rfl (hb hby at_157) rfl (l' := #[.val (.long b1), .second, .val (.long b2), .second, .val (.long b3), .second, .val (.long b4), .second, .val (.long q1), .second, .val (.long q2), .second, .val (.long q3), .second, .val (.long q4), .second, .val (.long q9), .second, .val (.long pl), .second, .val (.long ph), .second, .val (.long ql), .second, .val (.long qh), .second, .val (.int (1 : Int32)), .val (.long sl), .second, .unset, .unset, .unset]) rfl ?_
        show Steps p.tables e below (T27.setTop (mkF m 159 #[.val (.long b1), .second, .val (.long b2), .second, .val (.long b3), .second, .val (.long b4), .second, .val (.long q1), .second, .val (.long q2), .second, .val (.long q3), .second, .val (.long q4), .second, .val (.long q9), .second, .val (.long pl), .second, .val (.long ph), .second, .val (.long ql), .second, .val (.long qh), .second, .val (.int (1 : Int32)), .val (.long sl), .second, .unset, .unset, .unset] [])) _
        refine XS.lload X27.here hx rfl (hb hby at_159) rfl ?_
        show Steps p.tables e below (T27.setTop (mkF m 161 #[.val (.long b1), .second, .val (.long b2), .second, .val (.long b3), .second, .val (.long b4), .second, .val (.long q1), .second, .val (.long q2), .second, .val (.long q3), .second, .val (.long q4), .second, .val (.long q9), .second, .val (.long pl), .second, .val (.long ph), .second, .val (.long ql), .second, .val (.long qh), .second, .val (.int (1 : Int32)), .val (.long sl), .second, .unset, .unset, .unset] [(.long qh)])) _
        refine XS.lload X27.here hx rfl (hb hby at_161) rfl ?_
        show Steps p.tables e below (T27.setTop (mkF m 163 #[.val (.long b1), .second, .val (.long b2), .second, .val (.long b3), .second, .val (.long b4), .second, .val (.long q1), .second, .val (.long q2), .second, .val (.long q3), .second, .val (.long q4), .second, .val (.long q9), .second, .val (.long pl), .second, .val (.long ph), .second, .val (.long ql), .second, .val (.long qh), .second, .val (.int (1 : Int32)), .val (.long sl), .second, .unset, .unset, .unset] [(.long sl), (.long qh)])) _
        refine XS.lload X27.here hx rfl (hb hby at_163) rfl ?_
        exact kt
      obtain ⟨_, _, ⟨T36, L36, k36, n36⟩, -, X36, ⟨Lc36, hQ36, l36, y36, z36⟩, st36⟩ := Jvm.LawKit.callS X27 hx (y := (⟨"com/example/limtok/limtok/ExactMathMultiplyDividePinLaw", "ult", "(JJ)Z"⟩ : MethodName)) hown (mvT hZ (hw _ (List.mem_of_getElem? (i := 18) rfl))) (mvT hZ (hw _ (List.mem_of_getElem? (i := 19) rfl))) (mvT hZ (hw _ (List.mem_of_getElem? (i := 15) rfl))) (mvT hZ (hw _ (List.mem_of_getElem? (i := 20) rfl))) (by decide) (backOf (W := 2) (rm5 l Z a0 hw [] sl q4 h0 n0 Z0) hZ (hw _ (List.mem_of_getElem? (i := 20) rfl)) (hw _ (List.mem_of_getElem? (i := 15) rfl)) (by decide) (by decide)) (g := (mkF m 165 #[.val (.long b1), .second, .val (.long b2), .second, .val (.long b3), .second, .val (.long b4), .second, .val (.long q1), .second, .val (.long q2), .second, .val (.long q3), .second, .val (.long q4), .second, .val (.long q9), .second, .val (.long pl), .second, .val (.long ph), .second, .val (.long ql), .second, .val (.long qh), .second, .val (.int (1 : Int32)), .val (.long sl), .second, .unset, .unset, .unset] [(.long q4), (.long sl), (.long qh)])) rfl (by rw [hml]; rfl) (argsL := [(.long sl), (.long q4)]) (rest := [(.long qh)]) (lenOf pd_4 rfl) rfl (by show 2 * 0 + _ ≤ _; exact Nat.le_of_eq rfl) (hb hby at_165) (fun _ _ => ⟨rfl, e27, (by decide : 0 + 0 ≤ _), (by decide : 0 + 0 ≤ _)⟩)
      dsimp only [Pt.U, Pt.locs, Pt.cells, Pt.slots] at X36 l36 y36 z36 st36 hQ36
      subst l36 y36 z36
      obtain ⟨u2, rfl, hu2, Nq36, e36⟩ := hQ36
      have N36 := Fr.app N27 Nq36
      have K37 : ∀ t, Steps p.tables e below (T36.setTop (mkF m 168 #[.val (.long b1), .second, .val (.long b2), .second, .val (.long b3), .second, .val (.long b4), .second, .val (.long q1), .second, .val (.long q2), .second, .val (.long q3), .second, .val (.long q4), .second, .val (.long q9), .second, .val (.long pl), .second, .val (.long ph), .second, .val (.long ql), .second, .val (.long qh), .second, .val (.int (1 : Int32)), .val (.long sl), .second, .unset, .unset, .unset] [(.int u2), (.long qh)])) t → Steps p.tables e below (s₁.setTop (entryFrame m #[(.long b1), (.long b2), (.long b3), (.long b4)] maxLocals)) t := fun t kt => K35 t (st36 t kt)
      obtain ⟨sh, hsh, Kjsh⟩ : ∃ z : Int64, Cy qh sl q4 z ∧ (∀ t, Steps p.tables e below (T36.setTop (mkF m 177 #[.val (.long b1), .second, .val (.long b2), .second, .val (.long b3), .second, .val (.long b4), .second, .val (.long q1), .second, .val (.long q2), .second, .val (.long q3), .second, .val (.long q4), .second, .val (.long q9), .second, .val (.long pl), .second, .val (.long ph), .second, .val (.long ql), .second, .val (.long qh), .second, .val (.int (1 : Int32)), .val (.long sl), .second, .unset, .unset, .unset] [(.long z)])) t → Steps p.tables e below (s₁.setTop (entryFrame m #[(.long b1), (.long b2), (.long b3), (.long b4)] maxLocals)) t) := by
        by_cases hc : u2 = (0 : Int32)
        · have K38 : ∀ t, Steps p.tables e below (T36.setTop (mkF m 177 #[.val (.long b1), .second, .val (.long b2), .second, .val (.long b3), .second, .val (.long b4), .second, .val (.long q1), .second, .val (.long q2), .second, .val (.long q3), .second, .val (.long q4), .second, .val (.long q9), .second, .val (.long pl), .second, .val (.long ph), .second, .val (.long ql), .second, .val (.long qh), .second, .val (.int (1 : Int32)), .val (.long sl), .second, .unset, .unset, .unset] [(.long (qh + (0 : Int64)))])) t → Steps p.tables e below (s₁.setTop (entryFrame m #[(.long b1), (.long b2), (.long b3), (.long b4)] maxLocals)) t := by
            intro t kt
            refine K37 t ?_
            show Steps p.tables e below (T36.setTop (mkF m 168 #[.val (.long b1), .second, .val (.long b2), .second, .val (.long b3), .second, .val (.long b4), .second, .val (.long q1), .second, .val (.long q2), .second, .val (.long q3), .second, .val (.long q4), .second, .val (.long q9), .second, .val (.long pl), .second, .val (.long ph), .second, .val (.long ql), .second, .val (.long qh), .second, .val (.int (1 : Int32)), .val (.long sl), .second, .unset, .unset, .unset] [(.int u2), (.long qh)])) _
            refine XS.ifYes X36.here hx rfl (pc0 := 168) (pc' := 175) rfl (hb hby at_168) rfl ((if0 _ _).trans (teq (hc : u2 = (0 : Int32))).1) (by decide) (by decide) ?_
            show Steps p.tables e below (T36.setTop (mkF m 175 #[.val (.long b1), .second, .val (.long b2), .second, .val (.long b3), .second, .val (.long b4), .second, .val (.long q1), .second, .val (.long q2), .second, .val (.long q3), .second, .val (.long q4), .second, .val (.long q9), .second, .val (.long pl), .second, .val (.long ph), .second, .val (.long ql), .second, .val (.long qh), .second, .val (.int (1 : Int32)), .val (.long sl), .second, .unset, .unset, .unset] [(.long qh)])) _
            refine XS.lconst X36.here hx rfl (hb hby at_175) ?_
            show Steps p.tables e below (T36.setTop (mkF m 176 #[.val (.long b1), .second, .val (.long b2), .second, .val (.long b3), .second, .val (.long b4), .second, .val (.long q1), .second, .val (.long q2), .second, .val (.long q3), .second, .val (.long q4), .second, .val (.long q9), .second, .val (.long pl), .second, .val (.long ph), .second, .val (.long ql), .second, .val (.long qh), .second, .val (.int (1 : Int32)), .val (.long sl), .second, .unset, .unset, .unset] [(.long (0 : Int64)), (.long qh)])) _
            refine XS.ladd X36.here hx rfl (hb hby at_176) rfl ?_
            exact kt
          exact ⟨_, own_carry0 hu2 hc, K38⟩
        · have K39 : ∀ t, Steps p.tables e below (T36.setTop (mkF m 177 #[.val (.long b1), .second, .val (.long b2), .second, .val (.long b3), .second, .val (.long b4), .second, .val (.long q1), .second, .val (.long q2), .second, .val (.long q3), .second, .val (.long q4), .second, .val (.long q9), .second, .val (.long pl), .second, .val (.long ph), .second, .val (.long ql), .second, .val (.long qh), .second, .val (.int (1 : Int32)), .val (.long sl), .second, .unset, .unset, .unset] [(.long (qh + (1 : Int64)))])) t → Steps p.tables e below (s₁.setTop (entryFrame m #[(.long b1), (.long b2), (.long b3), (.long b4)] maxLocals)) t := by
            intro t kt
            refine K37 t ?_
            show Steps p.tables e below (T36.setTop (mkF m 168 #[.val (.long b1), .second, .val (.long b2), .second, .val (.long b3), .second, .val (.long b4), .second, .val (.long q1), .second, .val (.long q2), .second, .val (.long q3), .second, .val (.long q4), .second, .val (.long q9), .second, .val (.long pl), .second, .val (.long ph), .second, .val (.long ql), .second, .val (.long qh), .second, .val (.int (1 : Int32)), .val (.long sl), .second, .unset, .unset, .unset] [(.int u2), (.long qh)])) _
            refine XS.ifNo X36.here hx rfl (hb hby at_168) rfl ((if0 _ _).trans (feq (hc : ¬ (u2 = (0 : Int32)))).1) ?_
            show Steps p.tables e below (T36.setTop (mkF m 171 #[.val (.long b1), .second, .val (.long b2), .second, .val (.long b3), .second, .val (.long b4), .second, .val (.long q1), .second, .val (.long q2), .second, .val (.long q3), .second, .val (.long q4), .second, .val (.long q9), .second, .val (.long pl), .second, .val (.long ph), .second, .val (.long ql), .second, .val (.long qh), .second, .val (.int (1 : Int32)), .val (.long sl), .second, .unset, .unset, .unset] [(.long qh)])) _
            refine XS.lconst X36.here hx rfl (hb hby at_171) ?_
            show Steps p.tables e below (T36.setTop (mkF m 172 #[.val (.long b1), .second, .val (.long b2), .second, .val (.long b3), .second, .val (.long b4), .second, .val (.long q1), .second, .val (.long q2), .second, .val (.long q3), .second, .val (.long q4), .second, .val (.long q9), .second, .val (.long pl), .second, .val (.long ph), .second, .val (.long ql), .second, .val (.long qh), .second, .val (.int (1 : Int32)), .val (.long sl), .second, .unset, .unset, .unset] [(.long (1 : Int64)), (.long qh)])) _
            refine XS.goto X36.here hx rfl (pc0 := 172) (pc' := 176) rfl (hb hby at_172) (by decide) (by decide) ?_
            show Steps p.tables e below (T36.setTop (mkF m 176 #[.val (.long b1), .second, .val (.long b2), .second, .val (.long b3), .second, .val (.long b4), .second, .val (.long q1), .second, .val (.long q2), .second, .val (.long q3), .second, .val (.long q4), .second, .val (.long q9), .second, .val (.long pl), .second, .val (.long ph), .second, .val (.long ql), .second, .val (.long qh), .second, .val (.int (1 : Int32)), .val (.long sl), .second, .unset, .unset, .unset] [(.long (1 : Int64)), (.long qh)])) _
            refine XS.ladd X36.here hx rfl (hb hby at_176) rfl ?_
            exact kt
          exact ⟨_, own_carry1 hu2 hc, K39⟩
      have K40 : ∀ t, Steps p.tables e below (T36.setTop (mkF m 177 #[.val (.long b1), .second, .val (.long b2), .second, .val (.long b3), .second, .val (.long b4), .second, .val (.long q1), .second, .val (.long q2), .second, .val (.long q3), .second, .val (.long q4), .second, .val (.long q9), .second, .val (.long pl), .second, .val (.long ph), .second, .val (.long ql), .second, .val (.long qh), .second, .val (.int (1 : Int32)), .val (.long sl), .second, .unset, .unset, .unset] [(.long sh)])) t → Steps p.tables e below (s₁.setTop (entryFrame m #[(.long b1), (.long b2), (.long b3), (.long b4)] maxLocals)) t := Kjsh
      have hSS := own_hs (own_md_ge hq9) p4 hB hsl hsh
      have K41 : ∀ t, Steps p.tables e below (T36.setTop (mkF m 184 #[.val (.long b1), .second, .val (.long b2), .second, .val (.long b3), .second, .val (.long b4), .second, .val (.long q1), .second, .val (.long q2), .second, .val (.long q3), .second, .val (.long q4), .second, .val (.long q9), .second, .val (.long pl), .second, .val (.long ph), .second, .val (.long ql), .second, .val (.long qh), .second, .val (.int (1 : Int32)), .val (.long sl), .second, .val (.long sh), .second, .unset] [(.int (lcmpW ph sh))])) t → Steps p.tables e below (s₁.setTop (entryFrame m #[(.long b1), (.long b2), (.long b3), (.long b4)] maxLocals)) t := by
        intro t kt
        refine K40 t ?_
        show Steps p.tables e below (T36.setTop (mkF m 177 #[.val (.long b1), .second, .val (.long b2), .second, .val (.long b3), .second, .val (.long b4), .second, .val (.long q1), .second, .val (.long q2), .second, .val (.long q3), .second, .val (.long q4), .second, .val (.long q9), .second, .val (.long pl), .second, .val (.long ph), .second, .val (.long ql), .second, .val (.long qh), .second, .val (.int (1 : Int32)), .val (.long sl), .second, .unset, .unset, .unset] [(.long sh)])) _
        refine XS.lstore X36.here hx rfl (hb hby at_177) rfl (l' := #[.val (.long b1), .second, .val (.long b2), .second, .val (.long b3), .second, .val (.long b4), .second, .val (.long q1), .second, .val (.long q2), .second, .val (.long q3), .second, .val (.long q4), .second, .val (.long q9), .second, .val (.long pl), .second, .val (.long ph), .second, .val (.long ql), .second, .val (.long qh), .second, .val (.int (1 : Int32)), .val (.long sl), .second, .val (.long sh), .second, .unset]) rfl ?_
        show Steps p.tables e below (T36.setTop (mkF m 179 #[.val (.long b1), .second, .val (.long b2), .second, .val (.long b3), .second, .val (.long b4), .second, .val (.long q1), .second, .val (.long q2), .second, .val (.long q3), .second, .val (.long q4), .second, .val (.long q9), .second, .val (.long pl), .second, .val (.long ph), .second, .val (.long ql), .second, .val (.long qh), .second, .val (.int (1 : Int32)), .val (.long sl), .second, .val (.long sh), .second, .unset] [])) _
        refine XS.lload X36.here hx rfl (hb hby at_179) rfl ?_
        show Steps p.tables e below (T36.setTop (mkF m 181 #[.val (.long b1), .second, .val (.long b2), .second, .val (.long b3), .second, .val (.long b4), .second, .val (.long q1), .second, .val (.long q2), .second, .val (.long q3), .second, .val (.long q4), .second, .val (.long q9), .second, .val (.long pl), .second, .val (.long ph), .second, .val (.long ql), .second, .val (.long qh), .second, .val (.int (1 : Int32)), .val (.long sl), .second, .val (.long sh), .second, .unset] [(.long ph)])) _
        refine XS.lload X36.here hx rfl (hb hby at_181) rfl ?_
        show Steps p.tables e below (T36.setTop (mkF m 183 #[.val (.long b1), .second, .val (.long b2), .second, .val (.long b3), .second, .val (.long b4), .second, .val (.long q1), .second, .val (.long q2), .second, .val (.long q3), .second, .val (.long q4), .second, .val (.long q9), .second, .val (.long pl), .second, .val (.long ph), .second, .val (.long ql), .second, .val (.long qh), .second, .val (.int (1 : Int32)), .val (.long sl), .second, .val (.long sh), .second, .unset] [(.long sh), (.long ph)])) _
        refine XS.lcmp X36.here hx rfl (hb hby at_183) rfl ?_
        exact kt
      by_cases e1 : (lcmpW ph sh) < (0 : Int32)
      · have K42 : ∀ t, Steps p.tables e below (T36.setTop (mkF m 227 #[.val (.long b1), .second, .val (.long b2), .second, .val (.long b3), .second, .val (.long b4), .second, .val (.long q1), .second, .val (.long q2), .second, .val (.long q3), .second, .val (.long q4), .second, .val (.long q9), .second, .val (.long pl), .second, .val (.long ph), .second, .val (.long ql), .second, .val (.long qh), .second, .val (.int (1 : Int32)), .val (.long sl), .second, .val (.long sh), .second, .val (.int (1 : Int32))] [(.int (1 : Int32))])) t → Steps p.tables e below (s₁.setTop (entryFrame m #[(.long b1), (.long b2), (.long b3), (.long b4)] maxLocals)) t := by
          intro t kt
          refine K41 t ?_
          show Steps p.tables e below (T36.setTop (mkF m 184 #[.val (.long b1), .second, .val (.long b2), .second, .val (.long b3), .second, .val (.long b4), .second, .val (.long q1), .second, .val (.long q2), .second, .val (.long q3), .second, .val (.long q4), .second, .val (.long q9), .second, .val (.long pl), .second, .val (.long ph), .second, .val (.long ql), .second, .val (.long qh), .second, .val (.int (1 : Int32)), .val (.long sl), .second, .val (.long sh), .second, .unset] [(.int (lcmpW ph sh))])) _
          refine XS.ifYes X36.here hx rfl (pc0 := 184) (pc' := 205) rfl (hb hby at_184) rfl ((if0 _ _).trans (tlt (e1 : (lcmpW ph sh) < (0 : Int32))).1) (by decide) (by decide) ?_
          show Steps p.tables e below (T36.setTop (mkF m 205 #[.val (.long b1), .second, .val (.long b2), .second, .val (.long b3), .second, .val (.long b4), .second, .val (.long q1), .second, .val (.long q2), .second, .val (.long q3), .second, .val (.long q4), .second, .val (.long q9), .second, .val (.long pl), .second, .val (.long ph), .second, .val (.long ql), .second, .val (.long qh), .second, .val (.int (1 : Int32)), .val (.long sl), .second, .val (.long sh), .second, .unset] [])) _
          refine XS.iconst X36.here hx rfl (hb hby at_205) ?_
          show Steps p.tables e below (T36.setTop (mkF m 206 #[.val (.long b1), .second, .val (.long b2), .second, .val (.long b3), .second, .val (.long b4), .second, .val (.long q1), .second, .val (.long q2), .second, .val (.long q3), .second, .val (.long q4), .second, .val (.long q9), .second, .val (.long pl), .second, .val (.long ph), .second, .val (.long ql), .second, .val (.long qh), .second, .val (.int (1 : Int32)), .val (.long sl), .second, .val (.long sh), .second, .unset] [(.int (1 : Int32))])) _
          refine XS.goto X36.here hx rfl (pc0 := 206) (pc' := 210) rfl (hb hby at_206) (by decide) (by decide) ?_
          show Steps p.tables e below (T36.setTop (mkF m 210 #[.val (.long b1), .second, .val (.long b2), .second, .val (.long b3), .second, .val (.long b4), .second, .val (.long q1), .second, .val (.long q2), .second, .val (.long q3), .second, .val (.long q4), .second, .val (.long q9), .second, .val (.long pl), .second, .val (.long ph), .second, .val (.long ql), .second, .val (.long qh), .second, .val (.int (1 : Int32)), .val (.long sl), .second, .val (.long sh), .second, .unset] [(.int (1 : Int32))])) _
          refine XS.istore X36.here hx rfl (hb hby at_210) rfl (l' := #[.val (.long b1), .second, .val (.long b2), .second, .val (.long b3), .second, .val (.long b4), .second, .val (.long q1), .second, .val (.long q2), .second, .val (.long q3), .second, .val (.long q4), .second, .val (.long q9), .second, .val (.long pl), .second, .val (.long ph), .second, .val (.long ql), .second, .val (.long qh), .second, .val (.int (1 : Int32)), .val (.long sl), .second, .val (.long sh), .second, .val (.int (1 : Int32))]) rfl ?_
          show Steps p.tables e below (T36.setTop (mkF m 212 #[.val (.long b1), .second, .val (.long b2), .second, .val (.long b3), .second, .val (.long b4), .second, .val (.long q1), .second, .val (.long q2), .second, .val (.long q3), .second, .val (.long q4), .second, .val (.long q9), .second, .val (.long pl), .second, .val (.long ph), .second, .val (.long ql), .second, .val (.long qh), .second, .val (.int (1 : Int32)), .val (.long sl), .second, .val (.long sh), .second, .val (.int (1 : Int32))] [])) _
          refine XS.iload X36.here hx rfl (hb hby at_212) rfl ?_
          show Steps p.tables e below (T36.setTop (mkF m 214 #[.val (.long b1), .second, .val (.long b2), .second, .val (.long b3), .second, .val (.long b4), .second, .val (.long q1), .second, .val (.long q2), .second, .val (.long q3), .second, .val (.long q4), .second, .val (.long q9), .second, .val (.long pl), .second, .val (.long ph), .second, .val (.long ql), .second, .val (.long qh), .second, .val (.int (1 : Int32)), .val (.long sl), .second, .val (.long sh), .second, .val (.int (1 : Int32))] [(.int (1 : Int32))])) _
          refine XS.ifNo X36.here hx rfl (hb hby at_214) rfl ((if0 _ _).trans (feq (by decide : ¬ ((1 : Int32) = (0 : Int32)))).1) ?_
          show Steps p.tables e below (T36.setTop (mkF m 217 #[.val (.long b1), .second, .val (.long b2), .second, .val (.long b3), .second, .val (.long b4), .second, .val (.long q1), .second, .val (.long q2), .second, .val (.long q3), .second, .val (.long q4), .second, .val (.long q9), .second, .val (.long pl), .second, .val (.long ph), .second, .val (.long ql), .second, .val (.long qh), .second, .val (.int (1 : Int32)), .val (.long sl), .second, .val (.long sh), .second, .val (.int (1 : Int32))] [])) _
          refine XS.iload X36.here hx rfl (hb hby at_217) rfl ?_
          show Steps p.tables e below (T36.setTop (mkF m 219 #[.val (.long b1), .second, .val (.long b2), .second, .val (.long b3), .second, .val (.long b4), .second, .val (.long q1), .second, .val (.long q2), .second, .val (.long q3), .second, .val (.long q4), .second, .val (.long q9), .second, .val (.long pl), .second, .val (.long ph), .second, .val (.long ql), .second, .val (.long qh), .second, .val (.int (1 : Int32)), .val (.long sl), .second, .val (.long sh), .second, .val (.int (1 : Int32))] [(.int (1 : Int32))])) _
          refine XS.ifNo X36.here hx rfl (hb hby at_219) rfl ((if0 _ _).trans (feq (by decide : ¬ ((1 : Int32) = (0 : Int32)))).1) ?_
          show Steps p.tables e below (T36.setTop (mkF m 222 #[.val (.long b1), .second, .val (.long b2), .second, .val (.long b3), .second, .val (.long b4), .second, .val (.long q1), .second, .val (.long q2), .second, .val (.long q3), .second, .val (.long q4), .second, .val (.long q9), .second, .val (.long pl), .second, .val (.long ph), .second, .val (.long ql), .second, .val (.long qh), .second, .val (.int (1 : Int32)), .val (.long sl), .second, .val (.long sh), .second, .val (.int (1 : Int32))] [])) _
          refine XS.iconst X36.here hx rfl (hb hby at_222) ?_
          show Steps p.tables e below (T36.setTop (mkF m 223 #[.val (.long b1), .second, .val (.long b2), .second, .val (.long b3), .second, .val (.long b4), .second, .val (.long q1), .second, .val (.long q2), .second, .val (.long q3), .second, .val (.long q4), .second, .val (.long q9), .second, .val (.long pl), .second, .val (.long ph), .second, .val (.long ql), .second, .val (.long qh), .second, .val (.int (1 : Int32)), .val (.long sl), .second, .val (.long sh), .second, .val (.int (1 : Int32))] [(.int (1 : Int32))])) _
          refine XS.goto X36.here hx rfl (pc0 := 223) (pc' := 227) rfl (hb hby at_223) (by decide) (by decide) ?_
          exact kt
        obtain ⟨fs, hr, hrun, hended, hW, hsame⟩ := X36.leave (v := some (.int (1 : Int32))) (fun h => by rw [Bd.returns] at h; cases h) (hlocks := hlk)
        refine ⟨_, _, K42 _ ?_, hrun, hended, _, _, rfl, ?_, ⟨_, rfl⟩, hW, hsame.mono (by decide) (by decide)⟩
        · exact retN X36 hx (t := .boolean) Bd.returns (by simp) (hb hby at_227) hr
        · show Qrm0 b1 b2 b3 b4 h0 n0 _ T36.heap _
          rw [e36]
          exact ⟨rfl, N36⟩
      · have K43 : ∀ t, Steps p.tables e below (T36.setTop (mkF m 192 #[.val (.long b1), .second, .val (.long b2), .second, .val (.long b3), .second, .val (.long b4), .second, .val (.long q1), .second, .val (.long q2), .second, .val (.long q3), .second, .val (.long q4), .second, .val (.long q9), .second, .val (.long pl), .second, .val (.long ph), .second, .val (.long ql), .second, .val (.long qh), .second, .val (.int (1 : Int32)), .val (.long sl), .second, .val (.long sh), .second, .unset] [(.int (lcmpW ph sh))])) t → Steps p.tables e below (s₁.setTop (entryFrame m #[(.long b1), (.long b2), (.long b3), (.long b4)] maxLocals)) t := by
          intro t kt
          refine K41 t ?_
          show Steps p.tables e below (T36.setTop (mkF m 184 #[.val (.long b1), .second, .val (.long b2), .second, .val (.long b3), .second, .val (.long b4), .second, .val (.long q1), .second, .val (.long q2), .second, .val (.long q3), .second, .val (.long q4), .second, .val (.long q9), .second, .val (.long pl), .second, .val (.long ph), .second, .val (.long ql), .second, .val (.long qh), .second, .val (.int (1 : Int32)), .val (.long sl), .second, .val (.long sh), .second, .unset] [(.int (lcmpW ph sh))])) _
          refine XS.ifNo X36.here hx rfl (hb hby at_184) rfl ((if0 _ _).trans (flt (e1 : ¬ ((lcmpW ph sh) < (0 : Int32)))).1) ?_
          show Steps p.tables e below (T36.setTop (mkF m 187 #[.val (.long b1), .second, .val (.long b2), .second, .val (.long b3), .second, .val (.long b4), .second, .val (.long q1), .second, .val (.long q2), .second, .val (.long q3), .second, .val (.long q4), .second, .val (.long q9), .second, .val (.long pl), .second, .val (.long ph), .second, .val (.long ql), .second, .val (.long qh), .second, .val (.int (1 : Int32)), .val (.long sl), .second, .val (.long sh), .second, .unset] [])) _
          refine XS.lload X36.here hx rfl (hb hby at_187) rfl ?_
          show Steps p.tables e below (T36.setTop (mkF m 189 #[.val (.long b1), .second, .val (.long b2), .second, .val (.long b3), .second, .val (.long b4), .second, .val (.long q1), .second, .val (.long q2), .second, .val (.long q3), .second, .val (.long q4), .second, .val (.long q9), .second, .val (.long pl), .second, .val (.long ph), .second, .val (.long ql), .second, .val (.long qh), .second, .val (.int (1 : Int32)), .val (.long sl), .second, .val (.long sh), .second, .unset] [(.long ph)])) _
          refine XS.lload X36.here hx rfl (hb hby at_189) rfl ?_
          show Steps p.tables e below (T36.setTop (mkF m 191 #[.val (.long b1), .second, .val (.long b2), .second, .val (.long b3), .second, .val (.long b4), .second, .val (.long q1), .second, .val (.long q2), .second, .val (.long q3), .second, .val (.long q4), .second, .val (.long q9), .second, .val (.long pl), .second, .val (.long ph), .second, .val (.long ql), .second, .val (.long qh), .second, .val (.int (1 : Int32)), .val (.long sl), .second, .val (.long sh), .second, .unset] [(.long sh), (.long ph)])) _
          refine XS.lcmp X36.here hx rfl (hb hby at_191) rfl ?_
          exact kt
        by_cases e2 : (lcmpW ph sh) = (0 : Int32)
        · have K44 : ∀ t, Steps p.tables e below (T36.setTop (mkF m 199 #[.val (.long b1), .second, .val (.long b2), .second, .val (.long b3), .second, .val (.long b4), .second, .val (.long q1), .second, .val (.long q2), .second, .val (.long q3), .second, .val (.long q4), .second, .val (.long q9), .second, .val (.long pl), .second, .val (.long ph), .second, .val (.long ql), .second, .val (.long qh), .second, .val (.int (1 : Int32)), .val (.long sl), .second, .val (.long sh), .second, .unset] [(.long sl), (.long pl)])) t → Steps p.tables e below (s₁.setTop (entryFrame m #[(.long b1), (.long b2), (.long b3), (.long b4)] maxLocals)) t := by
            intro t kt
            refine K43 t ?_
            show Steps p.tables e below (T36.setTop (mkF m 192 #[.val (.long b1), .second, .val (.long b2), .second, .val (.long b3), .second, .val (.long b4), .second, .val (.long q1), .second, .val (.long q2), .second, .val (.long q3), .second, .val (.long q4), .second, .val (.long q9), .second, .val (.long pl), .second, .val (.long ph), .second, .val (.long ql), .second, .val (.long qh), .second, .val (.int (1 : Int32)), .val (.long sl), .second, .val (.long sh), .second, .unset] [(.int (lcmpW ph sh))])) _
            refine XS.ifNo X36.here hx rfl (hb hby at_192) rfl ((if0 _ _).trans (teq (e2 : (lcmpW ph sh) = (0 : Int32))).2) ?_
            show Steps p.tables e below (T36.setTop (mkF m 195 #[.val (.long b1), .second, .val (.long b2), .second, .val (.long b3), .second, .val (.long b4), .second, .val (.long q1), .second, .val (.long q2), .second, .val (.long q3), .second, .val (.long q4), .second, .val (.long q9), .second, .val (.long pl), .second, .val (.long ph), .second, .val (.long ql), .second, .val (.long qh), .second, .val (.int (1 : Int32)), .val (.long sl), .second, .val (.long sh), .second, .unset] [])) _
            refine XS.lload X36.here hx rfl (hb hby at_195) rfl ?_
            show Steps p.tables e below (T36.setTop (mkF m 197 #[.val (.long b1), .second, .val (.long b2), .second, .val (.long b3), .second, .val (.long b4), .second, .val (.long q1), .second, .val (.long q2), .second, .val (.long q3), .second, .val (.long q4), .second, .val (.long q9), .second, .val (.long pl), .second, .val (.long ph), .second, .val (.long ql), .second, .val (.long qh), .second, .val (.int (1 : Int32)), .val (.long sl), .second, .val (.long sh), .second, .unset] [(.long pl)])) _
            refine XS.lload X36.here hx rfl (hb hby at_197) rfl ?_
            exact kt
          obtain ⟨_, _, ⟨T45, L45, k45, n45⟩, -, X45, ⟨Lc45, hQ45, l45, y45, z45⟩, st45⟩ := Jvm.LawKit.callS X36 hx (y := (⟨"com/example/limtok/limtok/ExactMathMultiplyDividePinLaw", "ult", "(JJ)Z"⟩ : MethodName)) hown (mvT hZ (hw _ (List.mem_of_getElem? (i := 18) rfl))) (mvT hZ (hw _ (List.mem_of_getElem? (i := 19) rfl))) (mvT hZ (hw _ (List.mem_of_getElem? (i := 15) rfl))) (mvT hZ (hw _ (List.mem_of_getElem? (i := 20) rfl))) (by decide) (backOf (W := 0) (rm5 l Z a0 hw [] pl sl h0 n0 Z0) hZ (hw _ (List.mem_of_getElem? (i := 20) rfl)) (hw _ (List.mem_of_getElem? (i := 15) rfl)) (by decide) (by decide)) (g := (mkF m 199 #[.val (.long b1), .second, .val (.long b2), .second, .val (.long b3), .second, .val (.long b4), .second, .val (.long q1), .second, .val (.long q2), .second, .val (.long q3), .second, .val (.long q4), .second, .val (.long q9), .second, .val (.long pl), .second, .val (.long ph), .second, .val (.long ql), .second, .val (.long qh), .second, .val (.int (1 : Int32)), .val (.long sl), .second, .val (.long sh), .second, .unset] [(.long sl), (.long pl)])) rfl (by rw [hml]; rfl) (argsL := [(.long pl), (.long sl)]) (rest := []) (lenOf pd_4 rfl) rfl (by show 2 * 0 + _ ≤ _; exact Nat.le_of_eq rfl) (hb hby at_199) (fun _ _ => ⟨rfl, e36, (by decide : 0 + 0 ≤ _), (by decide : 0 + 0 ≤ _)⟩)
          dsimp only [Pt.U, Pt.locs, Pt.cells, Pt.slots] at X45 l45 y45 z45 st45 hQ45
          subst l45 y45 z45
          obtain ⟨u3, rfl, hu3, Nq45, e45⟩ := hQ45
          have N45 := Fr.app N36 Nq45
          have K46 : ∀ t, Steps p.tables e below (T45.setTop (mkF m 202 #[.val (.long b1), .second, .val (.long b2), .second, .val (.long b3), .second, .val (.long b4), .second, .val (.long q1), .second, .val (.long q2), .second, .val (.long q3), .second, .val (.long q4), .second, .val (.long q9), .second, .val (.long pl), .second, .val (.long ph), .second, .val (.long ql), .second, .val (.long qh), .second, .val (.int (1 : Int32)), .val (.long sl), .second, .val (.long sh), .second, .unset] [(.int u3)])) t → Steps p.tables e below (s₁.setTop (entryFrame m #[(.long b1), (.long b2), (.long b3), (.long b4)] maxLocals)) t := fun t kt => K44 t (st45 t kt)
          have hu3' : u3 = 1 := own_c2 hP hSS e2 hlt hu3
          subst hu3'
          have K47 : ∀ t, Steps p.tables e below (T45.setTop (mkF m 227 #[.val (.long b1), .second, .val (.long b2), .second, .val (.long b3), .second, .val (.long b4), .second, .val (.long q1), .second, .val (.long q2), .second, .val (.long q3), .second, .val (.long q4), .second, .val (.long q9), .second, .val (.long pl), .second, .val (.long ph), .second, .val (.long ql), .second, .val (.long qh), .second, .val (.int (1 : Int32)), .val (.long sl), .second, .val (.long sh), .second, .val (.int (1 : Int32))] [(.int (1 : Int32))])) t → Steps p.tables e below (s₁.setTop (entryFrame m #[(.long b1), (.long b2), (.long b3), (.long b4)] maxLocals)) t := by
            intro t kt
            refine K46 t ?_
            show Steps p.tables e below (T45.setTop (mkF m 202 #[.val (.long b1), .second, .val (.long b2), .second, .val (.long b3), .second, .val (.long b4), .second, .val (.long q1), .second, .val (.long q2), .second, .val (.long q3), .second, .val (.long q4), .second, .val (.long q9), .second, .val (.long pl), .second, .val (.long ph), .second, .val (.long ql), .second, .val (.long qh), .second, .val (.int (1 : Int32)), .val (.long sl), .second, .val (.long sh), .second, .unset] [(.int (1 : Int32))])) _
            refine XS.ifNo X45.here hx rfl (hb hby at_202) rfl ((if0 _ _).trans (feq (by decide : ¬ ((1 : Int32) = (0 : Int32)))).1) ?_
            show Steps p.tables e below (T45.setTop (mkF m 205 #[.val (.long b1), .second, .val (.long b2), .second, .val (.long b3), .second, .val (.long b4), .second, .val (.long q1), .second, .val (.long q2), .second, .val (.long q3), .second, .val (.long q4), .second, .val (.long q9), .second, .val (.long pl), .second, .val (.long ph), .second, .val (.long ql), .second, .val (.long qh), .second, .val (.int (1 : Int32)), .val (.long sl), .second, .val (.long sh), .second, .unset] [])) _
            refine XS.iconst X45.here hx rfl (hb hby at_205) ?_
            show Steps p.tables e below (T45.setTop (mkF m 206 #[.val (.long b1), .second, .val (.long b2), .second, .val (.long b3), .second, .val (.long b4), .second, .val (.long q1), .second, .val (.long q2), .second, .val (.long q3), .second, .val (.long q4), .second, .val (.long q9), .second, .val (.long pl), .second, .val (.long ph), .second, .val (.long ql), .second, .val (.long qh), .second, .val (.int (1 : Int32)), .val (.long sl), .second, .val (.long sh), .second, .unset] [(.int (1 : Int32))])) _
            refine XS.goto X45.here hx rfl (pc0 := 206) (pc' := 210) rfl (hb hby at_206) (by decide) (by decide) ?_
            show Steps p.tables e below (T45.setTop (mkF m 210 #[.val (.long b1), .second, .val (.long b2), .second, .val (.long b3), .second, .val (.long b4), .second, .val (.long q1), .second, .val (.long q2), .second, .val (.long q3), .second, .val (.long q4), .second, .val (.long q9), .second, .val (.long pl), .second, .val (.long ph), .second, .val (.long ql), .second, .val (.long qh), .second, .val (.int (1 : Int32)), .val (.long sl), .second, .val (.long sh), .second, .unset] [(.int (1 : Int32))])) _
            refine XS.istore X45.here hx rfl (hb hby at_210) rfl (l' := #[.val (.long b1), .second, .val (.long b2), .second, .val (.long b3), .second, .val (.long b4), .second, .val (.long q1), .second, .val (.long q2), .second, .val (.long q3), .second, .val (.long q4), .second, .val (.long q9), .second, .val (.long pl), .second, .val (.long ph), .second, .val (.long ql), .second, .val (.long qh), .second, .val (.int (1 : Int32)), .val (.long sl), .second, .val (.long sh), .second, .val (.int (1 : Int32))]) rfl ?_
            show Steps p.tables e below (T45.setTop (mkF m 212 #[.val (.long b1), .second, .val (.long b2), .second, .val (.long b3), .second, .val (.long b4), .second, .val (.long q1), .second, .val (.long q2), .second, .val (.long q3), .second, .val (.long q4), .second, .val (.long q9), .second, .val (.long pl), .second, .val (.long ph), .second, .val (.long ql), .second, .val (.long qh), .second, .val (.int (1 : Int32)), .val (.long sl), .second, .val (.long sh), .second, .val (.int (1 : Int32))] [])) _
            refine XS.iload X45.here hx rfl (hb hby at_212) rfl ?_
            show Steps p.tables e below (T45.setTop (mkF m 214 #[.val (.long b1), .second, .val (.long b2), .second, .val (.long b3), .second, .val (.long b4), .second, .val (.long q1), .second, .val (.long q2), .second, .val (.long q3), .second, .val (.long q4), .second, .val (.long q9), .second, .val (.long pl), .second, .val (.long ph), .second, .val (.long ql), .second, .val (.long qh), .second, .val (.int (1 : Int32)), .val (.long sl), .second, .val (.long sh), .second, .val (.int (1 : Int32))] [(.int (1 : Int32))])) _
            refine XS.ifNo X45.here hx rfl (hb hby at_214) rfl ((if0 _ _).trans (feq (by decide : ¬ ((1 : Int32) = (0 : Int32)))).1) ?_
            show Steps p.tables e below (T45.setTop (mkF m 217 #[.val (.long b1), .second, .val (.long b2), .second, .val (.long b3), .second, .val (.long b4), .second, .val (.long q1), .second, .val (.long q2), .second, .val (.long q3), .second, .val (.long q4), .second, .val (.long q9), .second, .val (.long pl), .second, .val (.long ph), .second, .val (.long ql), .second, .val (.long qh), .second, .val (.int (1 : Int32)), .val (.long sl), .second, .val (.long sh), .second, .val (.int (1 : Int32))] [])) _
            refine XS.iload X45.here hx rfl (hb hby at_217) rfl ?_
            show Steps p.tables e below (T45.setTop (mkF m 219 #[.val (.long b1), .second, .val (.long b2), .second, .val (.long b3), .second, .val (.long b4), .second, .val (.long q1), .second, .val (.long q2), .second, .val (.long q3), .second, .val (.long q4), .second, .val (.long q9), .second, .val (.long pl), .second, .val (.long ph), .second, .val (.long ql), .second, .val (.long qh), .second, .val (.int (1 : Int32)), .val (.long sl), .second, .val (.long sh), .second, .val (.int (1 : Int32))] [(.int (1 : Int32))])) _
            refine XS.ifNo X45.here hx rfl (hb hby at_219) rfl ((if0 _ _).trans (feq (by decide : ¬ ((1 : Int32) = (0 : Int32)))).1) ?_
            show Steps p.tables e below (T45.setTop (mkF m 222 #[.val (.long b1), .second, .val (.long b2), .second, .val (.long b3), .second, .val (.long b4), .second, .val (.long q1), .second, .val (.long q2), .second, .val (.long q3), .second, .val (.long q4), .second, .val (.long q9), .second, .val (.long pl), .second, .val (.long ph), .second, .val (.long ql), .second, .val (.long qh), .second, .val (.int (1 : Int32)), .val (.long sl), .second, .val (.long sh), .second, .val (.int (1 : Int32))] [])) _
            refine XS.iconst X45.here hx rfl (hb hby at_222) ?_
            show Steps p.tables e below (T45.setTop (mkF m 223 #[.val (.long b1), .second, .val (.long b2), .second, .val (.long b3), .second, .val (.long b4), .second, .val (.long q1), .second, .val (.long q2), .second, .val (.long q3), .second, .val (.long q4), .second, .val (.long q9), .second, .val (.long pl), .second, .val (.long ph), .second, .val (.long ql), .second, .val (.long qh), .second, .val (.int (1 : Int32)), .val (.long sl), .second, .val (.long sh), .second, .val (.int (1 : Int32))] [(.int (1 : Int32))])) _
            refine XS.goto X45.here hx rfl (pc0 := 223) (pc' := 227) rfl (hb hby at_223) (by decide) (by decide) ?_
            exact kt
          obtain ⟨fs, hr, hrun, hended, hW, hsame⟩ := X45.leave (v := some (.int (1 : Int32))) (fun h => by rw [Bd.returns] at h; cases h) (hlocks := hlk)
          refine ⟨_, _, K47 _ ?_, hrun, hended, _, _, rfl, ?_, ⟨_, rfl⟩, hW, hsame.mono (by decide) (by decide)⟩
          · exact retN X45 hx (t := .boolean) Bd.returns (by simp) (hb hby at_227) hr
          · show Qrm0 b1 b2 b3 b4 h0 n0 _ T45.heap _
            rw [e45]
            exact ⟨rfl, N45⟩
        · have K48 : ∀ t, Steps p.tables e below (T36.setTop (mkF m 209 #[.val (.long b1), .second, .val (.long b2), .second, .val (.long b3), .second, .val (.long b4), .second, .val (.long q1), .second, .val (.long q2), .second, .val (.long q3), .second, .val (.long q4), .second, .val (.long q9), .second, .val (.long pl), .second, .val (.long ph), .second, .val (.long ql), .second, .val (.long qh), .second, .val (.int (1 : Int32)), .val (.long sl), .second, .val (.long sh), .second, .unset] [])) t → Steps p.tables e below (s₁.setTop (entryFrame m #[(.long b1), (.long b2), (.long b3), (.long b4)] maxLocals)) t := by
            intro t kt
            refine K43 t ?_
            show Steps p.tables e below (T36.setTop (mkF m 192 #[.val (.long b1), .second, .val (.long b2), .second, .val (.long b3), .second, .val (.long b4), .second, .val (.long q1), .second, .val (.long q2), .second, .val (.long q3), .second, .val (.long q4), .second, .val (.long q9), .second, .val (.long pl), .second, .val (.long ph), .second, .val (.long ql), .second, .val (.long qh), .second, .val (.int (1 : Int32)), .val (.long sl), .second, .val (.long sh), .second, .unset] [(.int (lcmpW ph sh))])) _
            refine XS.ifYes X36.here hx rfl (pc0 := 192) (pc' := 209) rfl (hb hby at_192) rfl ((if0 _ _).trans (feq (e2 : ¬ ((lcmpW ph sh) = (0 : Int32)))).2) (by decide) (by decide) ?_
            exact kt
          exact absurd hlt (own_c1 hP hSS e1 e2)
  · have K49 : ∀ t, Steps p.tables e below (T27.setTop (mkF m 120 #[.val (.long b1), .second, .val (.long b2), .second, .val (.long b3), .second, .val (.long b4), .second, .val (.long q1), .second, .val (.long q2), .second, .val (.long q3), .second, .val (.long q4), .second, .val (.long q9), .second, .val (.long pl), .second, .val (.long ph), .second, .val (.long ql), .second, .val (.long qh), .second, .unset, .unset, .unset, .unset, .unset, .unset] [(.int (lcmpW qh ph))])) t → Steps p.tables e below (s₁.setTop (entryFrame m #[(.long b1), (.long b2), (.long b3), (.long b4)] maxLocals)) t := by
      intro t kt
      refine K29 t ?_
      show Steps p.tables e below (T27.setTop (mkF m 112 #[.val (.long b1), .second, .val (.long b2), .second, .val (.long b3), .second, .val (.long b4), .second, .val (.long q1), .second, .val (.long q2), .second, .val (.long q3), .second, .val (.long q4), .second, .val (.long q9), .second, .val (.long pl), .second, .val (.long ph), .second, .val (.long ql), .second, .val (.long qh), .second, .unset, .unset, .unset, .unset, .unset, .unset] [(.int (lcmpW qh ph))])) _
      refine XS.ifNo X27.here hx rfl (hb hby at_112) rfl ((if0 _ _).trans (flt (f1 : ¬ ((lcmpW qh ph) < (0 : Int32)))).1) ?_
      show Steps p.tables e below (T27.setTop (mkF m 115 #[.val (.long b1), .second, .val (.long b2), .second, .val (.long b3), .second, .val (.long b4), .second, .val (.long q1), .second, .val (.long q2), .second, .val (.long q3), .second, .val (.long q4), .second, .val (.long q9), .second, .val (.long pl), .second, .val (.long ph), .second, .val (.long ql), .second, .val (.long qh), .second, .unset, .unset, .unset, .unset, .unset, .unset] [])) _
      refine XS.lload X27.here hx rfl (hb hby at_115) rfl ?_
      show Steps p.tables e below (T27.setTop (mkF m 117 #[.val (.long b1), .second, .val (.long b2), .second, .val (.long b3), .second, .val (.long b4), .second, .val (.long q1), .second, .val (.long q2), .second, .val (.long q3), .second, .val (.long q4), .second, .val (.long q9), .second, .val (.long pl), .second, .val (.long ph), .second, .val (.long ql), .second, .val (.long qh), .second, .unset, .unset, .unset, .unset, .unset, .unset] [(.long qh)])) _
      refine XS.lload X27.here hx rfl (hb hby at_117) rfl ?_
      show Steps p.tables e below (T27.setTop (mkF m 119 #[.val (.long b1), .second, .val (.long b2), .second, .val (.long b3), .second, .val (.long b4), .second, .val (.long q1), .second, .val (.long q2), .second, .val (.long q3), .second, .val (.long q4), .second, .val (.long q9), .second, .val (.long pl), .second, .val (.long ph), .second, .val (.long ql), .second, .val (.long qh), .second, .unset, .unset, .unset, .unset, .unset, .unset] [(.long ph), (.long qh)])) _
      refine XS.lcmp X27.here hx rfl (hb hby at_119) rfl ?_
      exact kt
    by_cases f2 : (lcmpW qh ph) = (0 : Int32)
    · have K50 : ∀ t, Steps p.tables e below (T27.setTop (mkF m 127 #[.val (.long b1), .second, .val (.long b2), .second, .val (.long b3), .second, .val (.long b4), .second, .val (.long q1), .second, .val (.long q2), .second, .val (.long q3), .second, .val (.long q4), .second, .val (.long q9), .second, .val (.long pl), .second, .val (.long ph), .second, .val (.long ql), .second, .val (.long qh), .second, .unset, .unset, .unset, .unset, .unset, .unset] [(.long ql), (.long pl)])) t → Steps p.tables e below (s₁.setTop (entryFrame m #[(.long b1), (.long b2), (.long b3), (.long b4)] maxLocals)) t := by
        intro t kt
        refine K49 t ?_
        show Steps p.tables e below (T27.setTop (mkF m 120 #[.val (.long b1), .second, .val (.long b2), .second, .val (.long b3), .second, .val (.long b4), .second, .val (.long q1), .second, .val (.long q2), .second, .val (.long q3), .second, .val (.long q4), .second, .val (.long q9), .second, .val (.long pl), .second, .val (.long ph), .second, .val (.long ql), .second, .val (.long qh), .second, .unset, .unset, .unset, .unset, .unset, .unset] [(.int (lcmpW qh ph))])) _
        refine XS.ifNo X27.here hx rfl (hb hby at_120) rfl ((if0 _ _).trans (teq (f2 : (lcmpW qh ph) = (0 : Int32))).2) ?_
        show Steps p.tables e below (T27.setTop (mkF m 123 #[.val (.long b1), .second, .val (.long b2), .second, .val (.long b3), .second, .val (.long b4), .second, .val (.long q1), .second, .val (.long q2), .second, .val (.long q3), .second, .val (.long q4), .second, .val (.long q9), .second, .val (.long pl), .second, .val (.long ph), .second, .val (.long ql), .second, .val (.long qh), .second, .unset, .unset, .unset, .unset, .unset, .unset] [])) _
        refine XS.lload X27.here hx rfl (hb hby at_123) rfl ?_
        show Steps p.tables e below (T27.setTop (mkF m 125 #[.val (.long b1), .second, .val (.long b2), .second, .val (.long b3), .second, .val (.long b4), .second, .val (.long q1), .second, .val (.long q2), .second, .val (.long q3), .second, .val (.long q4), .second, .val (.long q9), .second, .val (.long pl), .second, .val (.long ph), .second, .val (.long ql), .second, .val (.long qh), .second, .unset, .unset, .unset, .unset, .unset, .unset] [(.long pl)])) _
        refine XS.lload X27.here hx rfl (hb hby at_125) rfl ?_
        exact kt
      obtain ⟨_, _, ⟨T51, L51, k51, n51⟩, -, X51, ⟨Lc51, hQ51, l51, y51, z51⟩, st51⟩ := Jvm.LawKit.callS X27 hx (y := (⟨"com/example/limtok/limtok/ExactMathMultiplyDividePinLaw", "ult", "(JJ)Z"⟩ : MethodName)) hown (mvT hZ (hw _ (List.mem_of_getElem? (i := 18) rfl))) (mvT hZ (hw _ (List.mem_of_getElem? (i := 19) rfl))) (mvT hZ (hw _ (List.mem_of_getElem? (i := 15) rfl))) (mvT hZ (hw _ (List.mem_of_getElem? (i := 20) rfl))) (by decide) (backOf (W := 0) (rm5 l Z a0 hw [] pl ql h0 n0 Z0) hZ (hw _ (List.mem_of_getElem? (i := 20) rfl)) (hw _ (List.mem_of_getElem? (i := 15) rfl)) (by decide) (by decide)) (g := (mkF m 127 #[.val (.long b1), .second, .val (.long b2), .second, .val (.long b3), .second, .val (.long b4), .second, .val (.long q1), .second, .val (.long q2), .second, .val (.long q3), .second, .val (.long q4), .second, .val (.long q9), .second, .val (.long pl), .second, .val (.long ph), .second, .val (.long ql), .second, .val (.long qh), .second, .unset, .unset, .unset, .unset, .unset, .unset] [(.long ql), (.long pl)])) rfl (by rw [hml]; rfl) (argsL := [(.long pl), (.long ql)]) (rest := []) (lenOf pd_4 rfl) rfl (by show 2 * 0 + _ ≤ _; exact Nat.le_of_eq rfl) (hb hby at_127) (fun _ _ => ⟨rfl, e27, (by decide : 0 + 0 ≤ _), (by decide : 0 + 0 ≤ _)⟩)
      dsimp only [Pt.U, Pt.locs, Pt.cells, Pt.slots] at X51 l51 y51 z51 st51 hQ51
      subst l51 y51 z51
      obtain ⟨u0, rfl, hu0, Nq51, e51⟩ := hQ51
      have N51 := Fr.app N27 Nq51
      have K52 : ∀ t, Steps p.tables e below (T51.setTop (mkF m 130 #[.val (.long b1), .second, .val (.long b2), .second, .val (.long b3), .second, .val (.long b4), .second, .val (.long q1), .second, .val (.long q2), .second, .val (.long q3), .second, .val (.long q4), .second, .val (.long q9), .second, .val (.long pl), .second, .val (.long ph), .second, .val (.long ql), .second, .val (.long qh), .second, .unset, .unset, .unset, .unset, .unset, .unset] [(.int u0)])) t → Steps p.tables e below (s₁.setTop (entryFrame m #[(.long b1), (.long b2), (.long b3), (.long b4)] maxLocals)) t := fun t kt => K50 t (st51 t kt)
      have hu0' : u0 = 0 := own_c4 hP hB f2 (own_md_le hq9) hu0
      subst hu0'
      have K53 : ∀ t, Steps p.tables e below (T51.setTop (mkF m 146 #[.val (.long b1), .second, .val (.long b2), .second, .val (.long b3), .second, .val (.long b4), .second, .val (.long q1), .second, .val (.long q2), .second, .val (.long q3), .second, .val (.long q4), .second, .val (.long q9), .second, .val (.long pl), .second, .val (.long ph), .second, .val (.long ql), .second, .val (.long qh), .second, .val (.int (1 : Int32)), .unset, .unset, .unset, .unset, .unset] [(.int (lcmpW q9 (9223372036854775807 : Int64)))])) t → Steps p.tables e below (s₁.setTop (entryFrame m #[(.long b1), (.long b2), (.long b3), (.long b4)] maxLocals)) t := by
        intro t kt
        refine K52 t ?_
        show Steps p.tables e below (T51.setTop (mkF m 130 #[.val (.long b1), .second, .val (.long b2), .second, .val (.long b3), .second, .val (.long b4), .second, .val (.long q1), .second, .val (.long q2), .second, .val (.long q3), .second, .val (.long q4), .second, .val (.long q9), .second, .val (.long pl), .second, .val (.long ph), .second, .val (.long ql), .second, .val (.long qh), .second, .unset, .unset, .unset, .unset, .unset, .unset] [(.int (0 : Int32))])) _
        refine XS.ifNo X51.here hx rfl (hb hby at_130) rfl ((if0 _ _).trans (teq (by decide : (0 : Int32) = (0 : Int32))).2) ?_
        show Steps p.tables e below (T51.setTop (mkF m 133 #[.val (.long b1), .second, .val (.long b2), .second, .val (.long b3), .second, .val (.long b4), .second, .val (.long q1), .second, .val (.long q2), .second, .val (.long q3), .second, .val (.long q4), .second, .val (.long q9), .second, .val (.long pl), .second, .val (.long ph), .second, .val (.long ql), .second, .val (.long qh), .second, .unset, .unset, .unset, .unset, .unset, .unset] [])) _
        refine XS.iconst X51.here hx rfl (hb hby at_133) ?_
        show Steps p.tables e below (T51.setTop (mkF m 134 #[.val (.long b1), .second, .val (.long b2), .second, .val (.long b3), .second, .val (.long b4), .second, .val (.long q1), .second, .val (.long q2), .second, .val (.long q3), .second, .val (.long q4), .second, .val (.long q9), .second, .val (.long pl), .second, .val (.long ph), .second, .val (.long ql), .second, .val (.long qh), .second, .unset, .unset, .unset, .unset, .unset, .unset] [(.int (1 : Int32))])) _
        refine XS.goto X51.here hx rfl (pc0 := 134) (pc' := 138) rfl (hb hby at_134) (by decide) (by decide) ?_
        show Steps p.tables e below (T51.setTop (mkF m 138 #[.val (.long b1), .second, .val (.long b2), .second, .val (.long b3), .second, .val (.long b4), .second, .val (.long q1), .second, .val (.long q2), .second, .val (.long q3), .second, .val (.long q4), .second, .val (.long q9), .second, .val (.long pl), .second, .val (.long ph), .second, .val (.long ql), .second, .val (.long qh), .second, .unset, .unset, .unset, .unset, .unset, .unset] [(.int (1 : Int32))])) _
        refine XS.istore X51.here hx rfl (hb hby at_138) rfl (l' := #[.val (.long b1), .second, .val (.long b2), .second, .val (.long b3), .second, .val (.long b4), .second, .val (.long q1), .second, .val (.long q2), .second, .val (.long q3), .second, .val (.long q4), .second, .val (.long q9), .second, .val (.long pl), .second, .val (.long ph), .second, .val (.long ql), .second, .val (.long qh), .second, .val (.int (1 : Int32)), .unset, .unset, .unset, .unset, .unset]) rfl ?_
        show Steps p.tables e below (T51.setTop (mkF m 140 #[.val (.long b1), .second, .val (.long b2), .second, .val (.long b3), .second, .val (.long b4), .second, .val (.long q1), .second, .val (.long q2), .second, .val (.long q3), .second, .val (.long q4), .second, .val (.long q9), .second, .val (.long pl), .second, .val (.long ph), .second, .val (.long ql), .second, .val (.long qh), .second, .val (.int (1 : Int32)), .unset, .unset, .unset, .unset, .unset] [])) _
        refine XS.lload X51.here hx rfl (hb hby at_140) rfl ?_
        show Steps p.tables e below (T51.setTop (mkF m 142 #[.val (.long b1), .second, .val (.long b2), .second, .val (.long b3), .second, .val (.long b4), .second, .val (.long q1), .second, .val (.long q2), .second, .val (.long q3), .second, .val (.long q4), .second, .val (.long q9), .second, .val (.long pl), .second, .val (.long ph), .second, .val (.long ql), .second, .val (.long qh), .second, .val (.int (1 : Int32)), .unset, .unset, .unset, .unset, .unset] [(.long q9)])) _
        refine X51.ldc2Long hx hown (mvT hZ (hw _ (List.mem_of_getElem? (i := 0) rfl))) (g := (mkF m 142 #[.val (.long b1), .second, .val (.long b2), .second, .val (.long b3), .second, .val (.long b4), .second, .val (.long q1), .second, .val (.long q2), .second, .val (.long q3), .second, .val (.long q4), .second, .val (.long q9), .second, .val (.long pl), .second, .val (.long ph), .second, .val (.long ql), .second, .val (.long qh), .second, .val (.int (1 : Int32)), .unset, .unset, .unset, .unset, .unset] [(.long q9)])) rfl (hb hby at_142) _ ?_
        show Steps p.tables e below (T51.setTop (mkF m 145 #[.val (.long b1), .second, .val (.long b2), .second, .val (.long b3), .second, .val (.long b4), .second, .val (.long q1), .second, .val (.long q2), .second, .val (.long q3), .second, .val (.long q4), .second, .val (.long q9), .second, .val (.long pl), .second, .val (.long ph), .second, .val (.long ql), .second, .val (.long qh), .second, .val (.int (1 : Int32)), .unset, .unset, .unset, .unset, .unset] [(.long (9223372036854775807 : Int64)), (.long q9)])) _
        refine XS.lcmp X51.here hx rfl (hb hby at_145) rfl ?_
        exact kt
      by_cases hM : (lcmpW q9 (9223372036854775807 : Int64)) = (0 : Int32)
      · have K54 : ∀ t, Steps p.tables e below (T51.setTop (mkF m 151 #[.val (.long b1), .second, .val (.long b2), .second, .val (.long b3), .second, .val (.long b4), .second, .val (.long q1), .second, .val (.long q2), .second, .val (.long q3), .second, .val (.long q4), .second, .val (.long q9), .second, .val (.long pl), .second, .val (.long ph), .second, .val (.long ql), .second, .val (.long qh), .second, .val (.int (1 : Int32)), .unset, .unset, .unset, .unset, .unset] [(.int (1 : Int32))])) t → Steps p.tables e below (s₁.setTop (entryFrame m #[(.long b1), (.long b2), (.long b3), (.long b4)] maxLocals)) t := by
          intro t kt
          refine K53 t ?_
          show Steps p.tables e below (T51.setTop (mkF m 146 #[.val (.long b1), .second, .val (.long b2), .second, .val (.long b3), .second, .val (.long b4), .second, .val (.long q1), .second, .val (.long q2), .second, .val (.long q3), .second, .val (.long q4), .second, .val (.long q9), .second, .val (.long pl), .second, .val (.long ph), .second, .val (.long ql), .second, .val (.long qh), .second, .val (.int (1 : Int32)), .unset, .unset, .unset, .unset, .unset] [(.int (lcmpW q9 (9223372036854775807 : Int64)))])) _
          refine XS.ifNo X51.here hx rfl (hb hby at_146) rfl ((if0 _ _).trans (teq (hM : (lcmpW q9 (9223372036854775807 : Int64)) = (0 : Int32))).2) ?_
          show Steps p.tables e below (T51.setTop (mkF m 149 #[.val (.long b1), .second, .val (.long b2), .second, .val (.long b3), .second, .val (.long b4), .second, .val (.long q1), .second, .val (.long q2), .second, .val (.long q3), .second, .val (.long q4), .second, .val (.long q9), .second, .val (.long pl), .second, .val (.long ph), .second, .val (.long ql), .second, .val (.long qh), .second, .val (.int (1 : Int32)), .unset, .unset, .unset, .unset, .unset] [])) _
          refine XS.iload X51.here hx rfl (hb hby at_149) rfl ?_
          exact kt
        obtain ⟨fs, hr, hrun, hended, hW, hsame⟩ := X51.leave (v := some (.int (1 : Int32))) (fun h => by rw [Bd.returns] at h; cases h) (hlocks := hlk)
        refine ⟨_, _, K54 _ ?_, hrun, hended, _, _, rfl, ?_, ⟨_, rfl⟩, hW, hsame.mono (by decide) (by decide)⟩
        · exact retN X51 hx (t := .boolean) Bd.returns (by simp) (hb hby at_151) hr
        · show Qrm0 b1 b2 b3 b4 h0 n0 _ T51.heap _
          rw [e51]
          exact ⟨rfl, N51⟩
      · have K55 : ∀ t, Steps p.tables e below (T51.setTop (mkF m 152 #[.val (.long b1), .second, .val (.long b2), .second, .val (.long b3), .second, .val (.long b4), .second, .val (.long q1), .second, .val (.long q2), .second, .val (.long q3), .second, .val (.long q4), .second, .val (.long q9), .second, .val (.long pl), .second, .val (.long ph), .second, .val (.long ql), .second, .val (.long qh), .second, .val (.int (1 : Int32)), .unset, .unset, .unset, .unset, .unset] [])) t → Steps p.tables e below (s₁.setTop (entryFrame m #[(.long b1), (.long b2), (.long b3), (.long b4)] maxLocals)) t := by
          intro t kt
          refine K53 t ?_
          show Steps p.tables e below (T51.setTop (mkF m 146 #[.val (.long b1), .second, .val (.long b2), .second, .val (.long b3), .second, .val (.long b4), .second, .val (.long q1), .second, .val (.long q2), .second, .val (.long q3), .second, .val (.long q4), .second, .val (.long q9), .second, .val (.long pl), .second, .val (.long ph), .second, .val (.long ql), .second, .val (.long qh), .second, .val (.int (1 : Int32)), .unset, .unset, .unset, .unset, .unset] [(.int (lcmpW q9 (9223372036854775807 : Int64)))])) _
          refine XS.ifYes X51.here hx rfl (pc0 := 146) (pc' := 152) rfl (hb hby at_146) rfl ((if0 _ _).trans (feq (hM : ¬ ((lcmpW q9 (9223372036854775807 : Int64)) = (0 : Int32)))).2) (by decide) (by decide) ?_
          exact kt
        have hlt := own_ltS hq9 (fun z => hM ((lw_eq _ _).mpr z))
        have K56 : ∀ t, Steps p.tables e below (T51.setTop (mkF m 157 #[.val (.long b1), .second, .val (.long b2), .second, .val (.long b3), .second, .val (.long b4), .second, .val (.long q1), .second, .val (.long q2), .second, .val (.long q3), .second, .val (.long q4), .second, .val (.long q9), .second, .val (.long pl), .second, .val (.long ph), .second, .val (.long ql), .second, .val (.long qh), .second, .val (.int (1 : Int32)), .unset, .unset, .unset, .unset, .unset] [(.long (ql + q4))])) t → Steps p.tables e below (s₁.setTop (entryFrame m #[(.long b1), (.long b2), (.long b3), (.long b4)] maxLocals)) t := by
          intro t kt
          refine K55 t ?_
          show Steps p.tables e below (T51.setTop (mkF m 152 #[.val (.long b1), .second, .val (.long b2), .second, .val (.long b3), .second, .val (.long b4), .second, .val (.long q1), .second, .val (.long q2), .second, .val (.long q3), .second, .val (.long q4), .second, .val (.long q9), .second, .val (.long pl), .second, .val (.long ph), .second, .val (.long ql), .second, .val (.long qh), .second, .val (.int (1 : Int32)), .unset, .unset, .unset, .unset, .unset] [])) _
          refine XS.lload X51.here hx rfl (hb hby at_152) rfl ?_
          show Steps p.tables e below (T51.setTop (mkF m 154 #[.val (.long b1), .second, .val (.long b2), .second, .val (.long b3), .second, .val (.long b4), .second, .val (.long q1), .second, .val (.long q2), .second, .val (.long q3), .second, .val (.long q4), .second, .val (.long q9), .second, .val (.long pl), .second, .val (.long ph), .second, .val (.long ql), .second, .val (.long qh), .second, .val (.int (1 : Int32)), .unset, .unset, .unset, .unset, .unset] [(.long ql)])) _
          refine XS.lload X51.here hx rfl (hb hby at_154) rfl ?_
          show Steps p.tables e below (T51.setTop (mkF m 156 #[.val (.long b1), .second, .val (.long b2), .second, .val (.long b3), .second, .val (.long b4), .second, .val (.long q1), .second, .val (.long q2), .second, .val (.long q3), .second, .val (.long q4), .second, .val (.long q9), .second, .val (.long pl), .second, .val (.long ph), .second, .val (.long ql), .second, .val (.long qh), .second, .val (.int (1 : Int32)), .unset, .unset, .unset, .unset, .unset] [(.long q4), (.long ql)])) _
          refine XS.ladd X51.here hx rfl (hb hby at_156) rfl ?_
          exact kt
        obtain ⟨sl, hsl⟩ : ∃ z : Int64, z = (ql + q4) := ⟨_, rfl⟩
        have K57 : ∀ t, Steps p.tables e below (T51.setTop (mkF m 157 #[.val (.long b1), .second, .val (.long b2), .second, .val (.long b3), .second, .val (.long b4), .second, .val (.long q1), .second, .val (.long q2), .second, .val (.long q3), .second, .val (.long q4), .second, .val (.long q9), .second, .val (.long pl), .second, .val (.long ph), .second, .val (.long ql), .second, .val (.long qh), .second, .val (.int (1 : Int32)), .unset, .unset, .unset, .unset, .unset] [(.long sl)])) t → Steps p.tables e below (s₁.setTop (entryFrame m #[(.long b1), (.long b2), (.long b3), (.long b4)] maxLocals)) t := by
          rw [hsl]; exact K56
        have K58 : ∀ t, Steps p.tables e below (T51.setTop (mkF m 165 #[.val (.long b1), .second, .val (.long b2), .second, .val (.long b3), .second, .val (.long b4), .second, .val (.long q1), .second, .val (.long q2), .second, .val (.long q3), .second, .val (.long q4), .second, .val (.long q9), .second, .val (.long pl), .second, .val (.long ph), .second, .val (.long ql), .second, .val (.long qh), .second, .val (.int (1 : Int32)), .val (.long sl), .second, .unset, .unset, .unset] [(.long q4), (.long sl), (.long qh)])) t → Steps p.tables e below (s₁.setTop (entryFrame m #[(.long b1), (.long b2), (.long b3), (.long b4)] maxLocals)) t := by
          intro t kt
          refine K57 t ?_
          show Steps p.tables e below (T51.setTop (mkF m 157 #[.val (.long b1), .second, .val (.long b2), .second, .val (.long b3), .second, .val (.long b4), .second, .val (.long q1), .second, .val (.long q2), .second, .val (.long q3), .second, .val (.long q4), .second, .val (.long q9), .second, .val (.long pl), .second, .val (.long ph), .second, .val (.long ql), .second, .val (.long qh), .second, .val (.int (1 : Int32)), .unset, .unset, .unset, .unset, .unset] [(.long sl)])) _
          refine XS.lstore X51.here hx rfl (hb hby at_157) rfl (l' := #[.val (.long b1), .second, .val (.long b2), .second, .val (.long b3), .second, .val (.long b4), .second, .val (.long q1), .second, .val (.long q2), .second, .val (.long q3), .second, .val (.long q4), .second, .val (.long q9), .second, .val (.long pl), .second, .val (.long ph), .second, .val (.long ql), .second, .val (.long qh), .second, .val (.int (1 : Int32)), .val (.long sl), .second, .unset, .unset, .unset]) rfl ?_
          show Steps p.tables e below (T51.setTop (mkF m 159 #[.val (.long b1), .second, .val (.long b2), .second, .val (.long b3), .second, .val (.long b4), .second, .val (.long q1), .second, .val (.long q2), .second, .val (.long q3), .second, .val (.long q4), .second, .val (.long q9), .second, .val (.long pl), .second, .val (.long ph), .second, .val (.long ql), .second, .val (.long qh), .second, .val (.int (1 : Int32)), .val (.long sl), .second, .unset, .unset, .unset] [])) _
          refine XS.lload X51.here hx rfl (hb hby at_159) rfl ?_
          show Steps p.tables e below (T51.setTop (mkF m 161 #[.val (.long b1), .second, .val (.long b2), .second, .val (.long b3), .second, .val (.long b4), .second, .val (.long q1), .second, .val (.long q2), .second, .val (.long q3), .second, .val (.long q4), .second, .val (.long q9), .second, .val (.long pl), .second, .val (.long ph), .second, .val (.long ql), .second, .val (.long qh), .second, .val (.int (1 : Int32)), .val (.long sl), .second, .unset, .unset, .unset] [(.long qh)])) _
          refine XS.lload X51.here hx rfl (hb hby at_161) rfl ?_
          show Steps p.tables e below (T51.setTop (mkF m 163 #[.val (.long b1), .second, .val (.long b2), .second, .val (.long b3), .second, .val (.long b4), .second, .val (.long q1), .second, .val (.long q2), .second, .val (.long q3), .second, .val (.long q4), .second, .val (.long q9), .second, .val (.long pl), .second, .val (.long ph), .second, .val (.long ql), .second, .val (.long qh), .second, .val (.int (1 : Int32)), .val (.long sl), .second, .unset, .unset, .unset] [(.long sl), (.long qh)])) _
          refine XS.lload X51.here hx rfl (hb hby at_163) rfl ?_
          exact kt
        obtain ⟨_, _, ⟨T59, L59, k59, n59⟩, -, X59, ⟨Lc59, hQ59, l59, y59, z59⟩, st59⟩ := Jvm.LawKit.callS X51 hx (y := (⟨"com/example/limtok/limtok/ExactMathMultiplyDividePinLaw", "ult", "(JJ)Z"⟩ : MethodName)) hown (mvT hZ (hw _ (List.mem_of_getElem? (i := 18) rfl))) (mvT hZ (hw _ (List.mem_of_getElem? (i := 19) rfl))) (mvT hZ (hw _ (List.mem_of_getElem? (i := 15) rfl))) (mvT hZ (hw _ (List.mem_of_getElem? (i := 20) rfl))) (by decide) (backOf (W := 2) (rm5 l Z a0 hw [] sl q4 h0 n0 Z0) hZ (hw _ (List.mem_of_getElem? (i := 20) rfl)) (hw _ (List.mem_of_getElem? (i := 15) rfl)) (by decide) (by decide)) (g := (mkF m 165 #[.val (.long b1), .second, .val (.long b2), .second, .val (.long b3), .second, .val (.long b4), .second, .val (.long q1), .second, .val (.long q2), .second, .val (.long q3), .second, .val (.long q4), .second, .val (.long q9), .second, .val (.long pl), .second, .val (.long ph), .second, .val (.long ql), .second, .val (.long qh), .second, .val (.int (1 : Int32)), .val (.long sl), .second, .unset, .unset, .unset] [(.long q4), (.long sl), (.long qh)])) rfl (by rw [hml]; rfl) (argsL := [(.long sl), (.long q4)]) (rest := [(.long qh)]) (lenOf pd_4 rfl) rfl (by show 2 * 0 + _ ≤ _; exact Nat.le_of_eq rfl) (hb hby at_165) (fun _ _ => ⟨rfl, e51, (by decide : 0 + 0 ≤ _), (by decide : 0 + 0 ≤ _)⟩)
        dsimp only [Pt.U, Pt.locs, Pt.cells, Pt.slots] at X59 l59 y59 z59 st59 hQ59
        subst l59 y59 z59
        obtain ⟨u2, rfl, hu2, Nq59, e59⟩ := hQ59
        have N59 := Fr.app N51 Nq59
        have K60 : ∀ t, Steps p.tables e below (T59.setTop (mkF m 168 #[.val (.long b1), .second, .val (.long b2), .second, .val (.long b3), .second, .val (.long b4), .second, .val (.long q1), .second, .val (.long q2), .second, .val (.long q3), .second, .val (.long q4), .second, .val (.long q9), .second, .val (.long pl), .second, .val (.long ph), .second, .val (.long ql), .second, .val (.long qh), .second, .val (.int (1 : Int32)), .val (.long sl), .second, .unset, .unset, .unset] [(.int u2), (.long qh)])) t → Steps p.tables e below (s₁.setTop (entryFrame m #[(.long b1), (.long b2), (.long b3), (.long b4)] maxLocals)) t := fun t kt => K58 t (st59 t kt)
        obtain ⟨sh, hsh, Kjsh⟩ : ∃ z : Int64, Cy qh sl q4 z ∧ (∀ t, Steps p.tables e below (T59.setTop (mkF m 177 #[.val (.long b1), .second, .val (.long b2), .second, .val (.long b3), .second, .val (.long b4), .second, .val (.long q1), .second, .val (.long q2), .second, .val (.long q3), .second, .val (.long q4), .second, .val (.long q9), .second, .val (.long pl), .second, .val (.long ph), .second, .val (.long ql), .second, .val (.long qh), .second, .val (.int (1 : Int32)), .val (.long sl), .second, .unset, .unset, .unset] [(.long z)])) t → Steps p.tables e below (s₁.setTop (entryFrame m #[(.long b1), (.long b2), (.long b3), (.long b4)] maxLocals)) t) := by
          by_cases hc : u2 = (0 : Int32)
          · have K61 : ∀ t, Steps p.tables e below (T59.setTop (mkF m 177 #[.val (.long b1), .second, .val (.long b2), .second, .val (.long b3), .second, .val (.long b4), .second, .val (.long q1), .second, .val (.long q2), .second, .val (.long q3), .second, .val (.long q4), .second, .val (.long q9), .second, .val (.long pl), .second, .val (.long ph), .second, .val (.long ql), .second, .val (.long qh), .second, .val (.int (1 : Int32)), .val (.long sl), .second, .unset, .unset, .unset] [(.long (qh + (0 : Int64)))])) t → Steps p.tables e below (s₁.setTop (entryFrame m #[(.long b1), (.long b2), (.long b3), (.long b4)] maxLocals)) t := by
              intro t kt
              refine K60 t ?_
              show Steps p.tables e below (T59.setTop (mkF m 168 #[.val (.long b1), .second, .val (.long b2), .second, .val (.long b3), .second, .val (.long b4), .second, .val (.long q1), .second, .val (.long q2), .second, .val (.long q3), .second, .val (.long q4), .second, .val (.long q9), .second, .val (.long pl), .second, .val (.long ph), .second, .val (.long ql), .second, .val (.long qh), .second, .val (.int (1 : Int32)), .val (.long sl), .second, .unset, .unset, .unset] [(.int u2), (.long qh)])) _
              refine XS.ifYes X59.here hx rfl (pc0 := 168) (pc' := 175) rfl (hb hby at_168) rfl ((if0 _ _).trans (teq (hc : u2 = (0 : Int32))).1) (by decide) (by decide) ?_
              show Steps p.tables e below (T59.setTop (mkF m 175 #[.val (.long b1), .second, .val (.long b2), .second, .val (.long b3), .second, .val (.long b4), .second, .val (.long q1), .second, .val (.long q2), .second, .val (.long q3), .second, .val (.long q4), .second, .val (.long q9), .second, .val (.long pl), .second, .val (.long ph), .second, .val (.long ql), .second, .val (.long qh), .second, .val (.int (1 : Int32)), .val (.long sl), .second, .unset, .unset, .unset] [(.long qh)])) _
              refine XS.lconst X59.here hx rfl (hb hby at_175) ?_
              show Steps p.tables e below (T59.setTop (mkF m 176 #[.val (.long b1), .second, .val (.long b2), .second, .val (.long b3), .second, .val (.long b4), .second, .val (.long q1), .second, .val (.long q2), .second, .val (.long q3), .second, .val (.long q4), .second, .val (.long q9), .second, .val (.long pl), .second, .val (.long ph), .second, .val (.long ql), .second, .val (.long qh), .second, .val (.int (1 : Int32)), .val (.long sl), .second, .unset, .unset, .unset] [(.long (0 : Int64)), (.long qh)])) _
              refine XS.ladd X59.here hx rfl (hb hby at_176) rfl ?_
              exact kt
            exact ⟨_, own_carry0 hu2 hc, K61⟩
          · have K62 : ∀ t, Steps p.tables e below (T59.setTop (mkF m 177 #[.val (.long b1), .second, .val (.long b2), .second, .val (.long b3), .second, .val (.long b4), .second, .val (.long q1), .second, .val (.long q2), .second, .val (.long q3), .second, .val (.long q4), .second, .val (.long q9), .second, .val (.long pl), .second, .val (.long ph), .second, .val (.long ql), .second, .val (.long qh), .second, .val (.int (1 : Int32)), .val (.long sl), .second, .unset, .unset, .unset] [(.long (qh + (1 : Int64)))])) t → Steps p.tables e below (s₁.setTop (entryFrame m #[(.long b1), (.long b2), (.long b3), (.long b4)] maxLocals)) t := by
              intro t kt
              refine K60 t ?_
              show Steps p.tables e below (T59.setTop (mkF m 168 #[.val (.long b1), .second, .val (.long b2), .second, .val (.long b3), .second, .val (.long b4), .second, .val (.long q1), .second, .val (.long q2), .second, .val (.long q3), .second, .val (.long q4), .second, .val (.long q9), .second, .val (.long pl), .second, .val (.long ph), .second, .val (.long ql), .second, .val (.long qh), .second, .val (.int (1 : Int32)), .val (.long sl), .second, .unset, .unset, .unset] [(.int u2), (.long qh)])) _
              refine XS.ifNo X59.here hx rfl (hb hby at_168) rfl ((if0 _ _).trans (feq (hc : ¬ (u2 = (0 : Int32)))).1) ?_
              show Steps p.tables e below (T59.setTop (mkF m 171 #[.val (.long b1), .second, .val (.long b2), .second, .val (.long b3), .second, .val (.long b4), .second, .val (.long q1), .second, .val (.long q2), .second, .val (.long q3), .second, .val (.long q4), .second, .val (.long q9), .second, .val (.long pl), .second, .val (.long ph), .second, .val (.long ql), .second, .val (.long qh), .second, .val (.int (1 : Int32)), .val (.long sl), .second, .unset, .unset, .unset] [(.long qh)])) _
              refine XS.lconst X59.here hx rfl (hb hby at_171) ?_
              show Steps p.tables e below (T59.setTop (mkF m 172 #[.val (.long b1), .second, .val (.long b2), .second, .val (.long b3), .second, .val (.long b4), .second, .val (.long q1), .second, .val (.long q2), .second, .val (.long q3), .second, .val (.long q4), .second, .val (.long q9), .second, .val (.long pl), .second, .val (.long ph), .second, .val (.long ql), .second, .val (.long qh), .second, .val (.int (1 : Int32)), .val (.long sl), .second, .unset, .unset, .unset] [(.long (1 : Int64)), (.long qh)])) _
              refine XS.goto X59.here hx rfl (pc0 := 172) (pc' := 176) rfl (hb hby at_172) (by decide) (by decide) ?_
              show Steps p.tables e below (T59.setTop (mkF m 176 #[.val (.long b1), .second, .val (.long b2), .second, .val (.long b3), .second, .val (.long b4), .second, .val (.long q1), .second, .val (.long q2), .second, .val (.long q3), .second, .val (.long q4), .second, .val (.long q9), .second, .val (.long pl), .second, .val (.long ph), .second, .val (.long ql), .second, .val (.long qh), .second, .val (.int (1 : Int32)), .val (.long sl), .second, .unset, .unset, .unset] [(.long (1 : Int64)), (.long qh)])) _
              refine XS.ladd X59.here hx rfl (hb hby at_176) rfl ?_
              exact kt
            exact ⟨_, own_carry1 hu2 hc, K62⟩
        have K63 : ∀ t, Steps p.tables e below (T59.setTop (mkF m 177 #[.val (.long b1), .second, .val (.long b2), .second, .val (.long b3), .second, .val (.long b4), .second, .val (.long q1), .second, .val (.long q2), .second, .val (.long q3), .second, .val (.long q4), .second, .val (.long q9), .second, .val (.long pl), .second, .val (.long ph), .second, .val (.long ql), .second, .val (.long qh), .second, .val (.int (1 : Int32)), .val (.long sl), .second, .unset, .unset, .unset] [(.long sh)])) t → Steps p.tables e below (s₁.setTop (entryFrame m #[(.long b1), (.long b2), (.long b3), (.long b4)] maxLocals)) t := Kjsh
        have hSS := own_hs (own_md_ge hq9) p4 hB hsl hsh
        have K64 : ∀ t, Steps p.tables e below (T59.setTop (mkF m 184 #[.val (.long b1), .second, .val (.long b2), .second, .val (.long b3), .second, .val (.long b4), .second, .val (.long q1), .second, .val (.long q2), .second, .val (.long q3), .second, .val (.long q4), .second, .val (.long q9), .second, .val (.long pl), .second, .val (.long ph), .second, .val (.long ql), .second, .val (.long qh), .second, .val (.int (1 : Int32)), .val (.long sl), .second, .val (.long sh), .second, .unset] [(.int (lcmpW ph sh))])) t → Steps p.tables e below (s₁.setTop (entryFrame m #[(.long b1), (.long b2), (.long b3), (.long b4)] maxLocals)) t := by
          intro t kt
          refine K63 t ?_
          show Steps p.tables e below (T59.setTop (mkF m 177 #[.val (.long b1), .second, .val (.long b2), .second, .val (.long b3), .second, .val (.long b4), .second, .val (.long q1), .second, .val (.long q2), .second, .val (.long q3), .second, .val (.long q4), .second, .val (.long q9), .second, .val (.long pl), .second, .val (.long ph), .second, .val (.long ql), .second, .val (.long qh), .second, .val (.int (1 : Int32)), .val (.long sl), .second, .unset, .unset, .unset] [(.long sh)])) _
          refine XS.lstore X59.here hx rfl (hb hby at_177) rfl (l' := #[.val (.long b1), .second, .val (.long b2), .second, .val (.long b3), .second, .val (.long b4), .second, .val (.long q1), .second, .val (.long q2), .second, .val (.long q3), .second, .val (.long q4), .second, .val (.long q9), .second, .val (.long pl), .second, .val (.long ph), .second, .val (.long ql), .second, .val (.long qh), .second, .val (.int (1 : Int32)), .val (.long sl), .second, .val (.long sh), .second, .unset]) rfl ?_
          show Steps p.tables e below (T59.setTop (mkF m 179 #[.val (.long b1), .second, .val (.long b2), .second, .val (.long b3), .second, .val (.long b4), .second, .val (.long q1), .second, .val (.long q2), .second, .val (.long q3), .second, .val (.long q4), .second, .val (.long q9), .second, .val (.long pl), .second, .val (.long ph), .second, .val (.long ql), .second, .val (.long qh), .second, .val (.int (1 : Int32)), .val (.long sl), .second, .val (.long sh), .second, .unset] [])) _
          refine XS.lload X59.here hx rfl (hb hby at_179) rfl ?_
          show Steps p.tables e below (T59.setTop (mkF m 181 #[.val (.long b1), .second, .val (.long b2), .second, .val (.long b3), .second, .val (.long b4), .second, .val (.long q1), .second, .val (.long q2), .second, .val (.long q3), .second, .val (.long q4), .second, .val (.long q9), .second, .val (.long pl), .second, .val (.long ph), .second, .val (.long ql), .second, .val (.long qh), .second, .val (.int (1 : Int32)), .val (.long sl), .second, .val (.long sh), .second, .unset] [(.long ph)])) _
          refine XS.lload X59.here hx rfl (hb hby at_181) rfl ?_
          show Steps p.tables e below (T59.setTop (mkF m 183 #[.val (.long b1), .second, .val (.long b2), .second, .val (.long b3), .second, .val (.long b4), .second, .val (.long q1), .second, .val (.long q2), .second, .val (.long q3), .second, .val (.long q4), .second, .val (.long q9), .second, .val (.long pl), .second, .val (.long ph), .second, .val (.long ql), .second, .val (.long qh), .second, .val (.int (1 : Int32)), .val (.long sl), .second, .val (.long sh), .second, .unset] [(.long sh), (.long ph)])) _
          refine XS.lcmp X59.here hx rfl (hb hby at_183) rfl ?_
          exact kt
        by_cases e1 : (lcmpW ph sh) < (0 : Int32)
        · have K65 : ∀ t, Steps p.tables e below (T59.setTop (mkF m 227 #[.val (.long b1), .second, .val (.long b2), .second, .val (.long b3), .second, .val (.long b4), .second, .val (.long q1), .second, .val (.long q2), .second, .val (.long q3), .second, .val (.long q4), .second, .val (.long q9), .second, .val (.long pl), .second, .val (.long ph), .second, .val (.long ql), .second, .val (.long qh), .second, .val (.int (1 : Int32)), .val (.long sl), .second, .val (.long sh), .second, .val (.int (1 : Int32))] [(.int (1 : Int32))])) t → Steps p.tables e below (s₁.setTop (entryFrame m #[(.long b1), (.long b2), (.long b3), (.long b4)] maxLocals)) t := by
            intro t kt
            refine K64 t ?_
            show Steps p.tables e below (T59.setTop (mkF m 184 #[.val (.long b1), .second, .val (.long b2), .second, .val (.long b3), .second, .val (.long b4), .second, .val (.long q1), .second, .val (.long q2), .second, .val (.long q3), .second, .val (.long q4), .second, .val (.long q9), .second, .val (.long pl), .second, .val (.long ph), .second, .val (.long ql), .second, .val (.long qh), .second, .val (.int (1 : Int32)), .val (.long sl), .second, .val (.long sh), .second, .unset] [(.int (lcmpW ph sh))])) _
            refine XS.ifYes X59.here hx rfl (pc0 := 184) (pc' := 205) rfl (hb hby at_184) rfl ((if0 _ _).trans (tlt (e1 : (lcmpW ph sh) < (0 : Int32))).1) (by decide) (by decide) ?_
            show Steps p.tables e below (T59.setTop (mkF m 205 #[.val (.long b1), .second, .val (.long b2), .second, .val (.long b3), .second, .val (.long b4), .second, .val (.long q1), .second, .val (.long q2), .second, .val (.long q3), .second, .val (.long q4), .second, .val (.long q9), .second, .val (.long pl), .second, .val (.long ph), .second, .val (.long ql), .second, .val (.long qh), .second, .val (.int (1 : Int32)), .val (.long sl), .second, .val (.long sh), .second, .unset] [])) _
            refine XS.iconst X59.here hx rfl (hb hby at_205) ?_
            show Steps p.tables e below (T59.setTop (mkF m 206 #[.val (.long b1), .second, .val (.long b2), .second, .val (.long b3), .second, .val (.long b4), .second, .val (.long q1), .second, .val (.long q2), .second, .val (.long q3), .second, .val (.long q4), .second, .val (.long q9), .second, .val (.long pl), .second, .val (.long ph), .second, .val (.long ql), .second, .val (.long qh), .second, .val (.int (1 : Int32)), .val (.long sl), .second, .val (.long sh), .second, .unset] [(.int (1 : Int32))])) _
            refine XS.goto X59.here hx rfl (pc0 := 206) (pc' := 210) rfl (hb hby at_206) (by decide) (by decide) ?_
            show Steps p.tables e below (T59.setTop (mkF m 210 #[.val (.long b1), .second, .val (.long b2), .second, .val (.long b3), .second, .val (.long b4), .second, .val (.long q1), .second, .val (.long q2), .second, .val (.long q3), .second, .val (.long q4), .second, .val (.long q9), .second, .val (.long pl), .second, .val (.long ph), .second, .val (.long ql), .second, .val (.long qh), .second, .val (.int (1 : Int32)), .val (.long sl), .second, .val (.long sh), .second, .unset] [(.int (1 : Int32))])) _
            refine XS.istore X59.here hx rfl (hb hby at_210) rfl (l' := #[.val (.long b1), .second, .val (.long b2), .second, .val (.long b3), .second, .val (.long b4), .second, .val (.long q1), .second, .val (.long q2), .second, .val (.long q3), .second, .val (.long q4), .second, .val (.long q9), .second, .val (.long pl), .second, .val (.long ph), .second, .val (.long ql), .second, .val (.long qh), .second, .val (.int (1 : Int32)), .val (.long sl), .second, .val (.long sh), .second, .val (.int (1 : Int32))]) rfl ?_
            show Steps p.tables e below (T59.setTop (mkF m 212 #[.val (.long b1), .second, .val (.long b2), .second, .val (.long b3), .second, .val (.long b4), .second, .val (.long q1), .second, .val (.long q2), .second, .val (.long q3), .second, .val (.long q4), .second, .val (.long q9), .second, .val (.long pl), .second, .val (.long ph), .second, .val (.long ql), .second, .val (.long qh), .second, .val (.int (1 : Int32)), .val (.long sl), .second, .val (.long sh), .second, .val (.int (1 : Int32))] [])) _
            refine XS.iload X59.here hx rfl (hb hby at_212) rfl ?_
            show Steps p.tables e below (T59.setTop (mkF m 214 #[.val (.long b1), .second, .val (.long b2), .second, .val (.long b3), .second, .val (.long b4), .second, .val (.long q1), .second, .val (.long q2), .second, .val (.long q3), .second, .val (.long q4), .second, .val (.long q9), .second, .val (.long pl), .second, .val (.long ph), .second, .val (.long ql), .second, .val (.long qh), .second, .val (.int (1 : Int32)), .val (.long sl), .second, .val (.long sh), .second, .val (.int (1 : Int32))] [(.int (1 : Int32))])) _
            refine XS.ifNo X59.here hx rfl (hb hby at_214) rfl ((if0 _ _).trans (feq (by decide : ¬ ((1 : Int32) = (0 : Int32)))).1) ?_
            show Steps p.tables e below (T59.setTop (mkF m 217 #[.val (.long b1), .second, .val (.long b2), .second, .val (.long b3), .second, .val (.long b4), .second, .val (.long q1), .second, .val (.long q2), .second, .val (.long q3), .second, .val (.long q4), .second, .val (.long q9), .second, .val (.long pl), .second, .val (.long ph), .second, .val (.long ql), .second, .val (.long qh), .second, .val (.int (1 : Int32)), .val (.long sl), .second, .val (.long sh), .second, .val (.int (1 : Int32))] [])) _
            refine XS.iload X59.here hx rfl (hb hby at_217) rfl ?_
            show Steps p.tables e below (T59.setTop (mkF m 219 #[.val (.long b1), .second, .val (.long b2), .second, .val (.long b3), .second, .val (.long b4), .second, .val (.long q1), .second, .val (.long q2), .second, .val (.long q3), .second, .val (.long q4), .second, .val (.long q9), .second, .val (.long pl), .second, .val (.long ph), .second, .val (.long ql), .second, .val (.long qh), .second, .val (.int (1 : Int32)), .val (.long sl), .second, .val (.long sh), .second, .val (.int (1 : Int32))] [(.int (1 : Int32))])) _
            refine XS.ifNo X59.here hx rfl (hb hby at_219) rfl ((if0 _ _).trans (feq (by decide : ¬ ((1 : Int32) = (0 : Int32)))).1) ?_
            show Steps p.tables e below (T59.setTop (mkF m 222 #[.val (.long b1), .second, .val (.long b2), .second, .val (.long b3), .second, .val (.long b4), .second, .val (.long q1), .second, .val (.long q2), .second, .val (.long q3), .second, .val (.long q4), .second, .val (.long q9), .second, .val (.long pl), .second, .val (.long ph), .second, .val (.long ql), .second, .val (.long qh), .second, .val (.int (1 : Int32)), .val (.long sl), .second, .val (.long sh), .second, .val (.int (1 : Int32))] [])) _
            refine XS.iconst X59.here hx rfl (hb hby at_222) ?_
            show Steps p.tables e below (T59.setTop (mkF m 223 #[.val (.long b1), .second, .val (.long b2), .second, .val (.long b3), .second, .val (.long b4), .second, .val (.long q1), .second, .val (.long q2), .second, .val (.long q3), .second, .val (.long q4), .second, .val (.long q9), .second, .val (.long pl), .second, .val (.long ph), .second, .val (.long ql), .second, .val (.long qh), .second, .val (.int (1 : Int32)), .val (.long sl), .second, .val (.long sh), .second, .val (.int (1 : Int32))] [(.int (1 : Int32))])) _
            refine XS.goto X59.here hx rfl (pc0 := 223) (pc' := 227) rfl (hb hby at_223) (by decide) (by decide) ?_
            exact kt
          obtain ⟨fs, hr, hrun, hended, hW, hsame⟩ := X59.leave (v := some (.int (1 : Int32))) (fun h => by rw [Bd.returns] at h; cases h) (hlocks := hlk)
          refine ⟨_, _, K65 _ ?_, hrun, hended, _, _, rfl, ?_, ⟨_, rfl⟩, hW, hsame.mono (by decide) (by decide)⟩
          · exact retN X59 hx (t := .boolean) Bd.returns (by simp) (hb hby at_227) hr
          · show Qrm0 b1 b2 b3 b4 h0 n0 _ T59.heap _
            rw [e59]
            exact ⟨rfl, N59⟩
        · have K66 : ∀ t, Steps p.tables e below (T59.setTop (mkF m 192 #[.val (.long b1), .second, .val (.long b2), .second, .val (.long b3), .second, .val (.long b4), .second, .val (.long q1), .second, .val (.long q2), .second, .val (.long q3), .second, .val (.long q4), .second, .val (.long q9), .second, .val (.long pl), .second, .val (.long ph), .second, .val (.long ql), .second, .val (.long qh), .second, .val (.int (1 : Int32)), .val (.long sl), .second, .val (.long sh), .second, .unset] [(.int (lcmpW ph sh))])) t → Steps p.tables e below (s₁.setTop (entryFrame m #[(.long b1), (.long b2), (.long b3), (.long b4)] maxLocals)) t := by
            intro t kt
            refine K64 t ?_
            show Steps p.tables e below (T59.setTop (mkF m 184 #[.val (.long b1), .second, .val (.long b2), .second, .val (.long b3), .second, .val (.long b4), .second, .val (.long q1), .second, .val (.long q2), .second, .val (.long q3), .second, .val (.long q4), .second, .val (.long q9), .second, .val (.long pl), .second, .val (.long ph), .second, .val (.long ql), .second, .val (.long qh), .second, .val (.int (1 : Int32)), .val (.long sl), .second, .val (.long sh), .second, .unset] [(.int (lcmpW ph sh))])) _
            refine XS.ifNo X59.here hx rfl (hb hby at_184) rfl ((if0 _ _).trans (flt (e1 : ¬ ((lcmpW ph sh) < (0 : Int32)))).1) ?_
            show Steps p.tables e below (T59.setTop (mkF m 187 #[.val (.long b1), .second, .val (.long b2), .second, .val (.long b3), .second, .val (.long b4), .second, .val (.long q1), .second, .val (.long q2), .second, .val (.long q3), .second, .val (.long q4), .second, .val (.long q9), .second, .val (.long pl), .second, .val (.long ph), .second, .val (.long ql), .second, .val (.long qh), .second, .val (.int (1 : Int32)), .val (.long sl), .second, .val (.long sh), .second, .unset] [])) _
            refine XS.lload X59.here hx rfl (hb hby at_187) rfl ?_
            show Steps p.tables e below (T59.setTop (mkF m 189 #[.val (.long b1), .second, .val (.long b2), .second, .val (.long b3), .second, .val (.long b4), .second, .val (.long q1), .second, .val (.long q2), .second, .val (.long q3), .second, .val (.long q4), .second, .val (.long q9), .second, .val (.long pl), .second, .val (.long ph), .second, .val (.long ql), .second, .val (.long qh), .second, .val (.int (1 : Int32)), .val (.long sl), .second, .val (.long sh), .second, .unset] [(.long ph)])) _
            refine XS.lload X59.here hx rfl (hb hby at_189) rfl ?_
            show Steps p.tables e below (T59.setTop (mkF m 191 #[.val (.long b1), .second, .val (.long b2), .second, .val (.long b3), .second, .val (.long b4), .second, .val (.long q1), .second, .val (.long q2), .second, .val (.long q3), .second, .val (.long q4), .second, .val (.long q9), .second, .val (.long pl), .second, .val (.long ph), .second, .val (.long ql), .second, .val (.long qh), .second, .val (.int (1 : Int32)), .val (.long sl), .second, .val (.long sh), .second, .unset] [(.long sh), (.long ph)])) _
            refine XS.lcmp X59.here hx rfl (hb hby at_191) rfl ?_
            exact kt
          by_cases e2 : (lcmpW ph sh) = (0 : Int32)
          · have K67 : ∀ t, Steps p.tables e below (T59.setTop (mkF m 199 #[.val (.long b1), .second, .val (.long b2), .second, .val (.long b3), .second, .val (.long b4), .second, .val (.long q1), .second, .val (.long q2), .second, .val (.long q3), .second, .val (.long q4), .second, .val (.long q9), .second, .val (.long pl), .second, .val (.long ph), .second, .val (.long ql), .second, .val (.long qh), .second, .val (.int (1 : Int32)), .val (.long sl), .second, .val (.long sh), .second, .unset] [(.long sl), (.long pl)])) t → Steps p.tables e below (s₁.setTop (entryFrame m #[(.long b1), (.long b2), (.long b3), (.long b4)] maxLocals)) t := by
              intro t kt
              refine K66 t ?_
              show Steps p.tables e below (T59.setTop (mkF m 192 #[.val (.long b1), .second, .val (.long b2), .second, .val (.long b3), .second, .val (.long b4), .second, .val (.long q1), .second, .val (.long q2), .second, .val (.long q3), .second, .val (.long q4), .second, .val (.long q9), .second, .val (.long pl), .second, .val (.long ph), .second, .val (.long ql), .second, .val (.long qh), .second, .val (.int (1 : Int32)), .val (.long sl), .second, .val (.long sh), .second, .unset] [(.int (lcmpW ph sh))])) _
              refine XS.ifNo X59.here hx rfl (hb hby at_192) rfl ((if0 _ _).trans (teq (e2 : (lcmpW ph sh) = (0 : Int32))).2) ?_
              show Steps p.tables e below (T59.setTop (mkF m 195 #[.val (.long b1), .second, .val (.long b2), .second, .val (.long b3), .second, .val (.long b4), .second, .val (.long q1), .second, .val (.long q2), .second, .val (.long q3), .second, .val (.long q4), .second, .val (.long q9), .second, .val (.long pl), .second, .val (.long ph), .second, .val (.long ql), .second, .val (.long qh), .second, .val (.int (1 : Int32)), .val (.long sl), .second, .val (.long sh), .second, .unset] [])) _
              refine XS.lload X59.here hx rfl (hb hby at_195) rfl ?_
              show Steps p.tables e below (T59.setTop (mkF m 197 #[.val (.long b1), .second, .val (.long b2), .second, .val (.long b3), .second, .val (.long b4), .second, .val (.long q1), .second, .val (.long q2), .second, .val (.long q3), .second, .val (.long q4), .second, .val (.long q9), .second, .val (.long pl), .second, .val (.long ph), .second, .val (.long ql), .second, .val (.long qh), .second, .val (.int (1 : Int32)), .val (.long sl), .second, .val (.long sh), .second, .unset] [(.long pl)])) _
              refine XS.lload X59.here hx rfl (hb hby at_197) rfl ?_
              exact kt
            obtain ⟨_, _, ⟨T68, L68, k68, n68⟩, -, X68, ⟨Lc68, hQ68, l68, y68, z68⟩, st68⟩ := Jvm.LawKit.callS X59 hx (y := (⟨"com/example/limtok/limtok/ExactMathMultiplyDividePinLaw", "ult", "(JJ)Z"⟩ : MethodName)) hown (mvT hZ (hw _ (List.mem_of_getElem? (i := 18) rfl))) (mvT hZ (hw _ (List.mem_of_getElem? (i := 19) rfl))) (mvT hZ (hw _ (List.mem_of_getElem? (i := 15) rfl))) (mvT hZ (hw _ (List.mem_of_getElem? (i := 20) rfl))) (by decide) (backOf (W := 0) (rm5 l Z a0 hw [] pl sl h0 n0 Z0) hZ (hw _ (List.mem_of_getElem? (i := 20) rfl)) (hw _ (List.mem_of_getElem? (i := 15) rfl)) (by decide) (by decide)) (g := (mkF m 199 #[.val (.long b1), .second, .val (.long b2), .second, .val (.long b3), .second, .val (.long b4), .second, .val (.long q1), .second, .val (.long q2), .second, .val (.long q3), .second, .val (.long q4), .second, .val (.long q9), .second, .val (.long pl), .second, .val (.long ph), .second, .val (.long ql), .second, .val (.long qh), .second, .val (.int (1 : Int32)), .val (.long sl), .second, .val (.long sh), .second, .unset] [(.long sl), (.long pl)])) rfl (by rw [hml]; rfl) (argsL := [(.long pl), (.long sl)]) (rest := []) (lenOf pd_4 rfl) rfl (by show 2 * 0 + _ ≤ _; exact Nat.le_of_eq rfl) (hb hby at_199) (fun _ _ => ⟨rfl, e59, (by decide : 0 + 0 ≤ _), (by decide : 0 + 0 ≤ _)⟩)
            dsimp only [Pt.U, Pt.locs, Pt.cells, Pt.slots] at X68 l68 y68 z68 st68 hQ68
            subst l68 y68 z68
            obtain ⟨u3, rfl, hu3, Nq68, e68⟩ := hQ68
            have N68 := Fr.app N59 Nq68
            have K69 : ∀ t, Steps p.tables e below (T68.setTop (mkF m 202 #[.val (.long b1), .second, .val (.long b2), .second, .val (.long b3), .second, .val (.long b4), .second, .val (.long q1), .second, .val (.long q2), .second, .val (.long q3), .second, .val (.long q4), .second, .val (.long q9), .second, .val (.long pl), .second, .val (.long ph), .second, .val (.long ql), .second, .val (.long qh), .second, .val (.int (1 : Int32)), .val (.long sl), .second, .val (.long sh), .second, .unset] [(.int u3)])) t → Steps p.tables e below (s₁.setTop (entryFrame m #[(.long b1), (.long b2), (.long b3), (.long b4)] maxLocals)) t := fun t kt => K67 t (st68 t kt)
            have hu3' : u3 = 1 := own_c2 hP hSS e2 hlt hu3
            subst hu3'
            have K70 : ∀ t, Steps p.tables e below (T68.setTop (mkF m 227 #[.val (.long b1), .second, .val (.long b2), .second, .val (.long b3), .second, .val (.long b4), .second, .val (.long q1), .second, .val (.long q2), .second, .val (.long q3), .second, .val (.long q4), .second, .val (.long q9), .second, .val (.long pl), .second, .val (.long ph), .second, .val (.long ql), .second, .val (.long qh), .second, .val (.int (1 : Int32)), .val (.long sl), .second, .val (.long sh), .second, .val (.int (1 : Int32))] [(.int (1 : Int32))])) t → Steps p.tables e below (s₁.setTop (entryFrame m #[(.long b1), (.long b2), (.long b3), (.long b4)] maxLocals)) t := by
              intro t kt
              refine K69 t ?_
              show Steps p.tables e below (T68.setTop (mkF m 202 #[.val (.long b1), .second, .val (.long b2), .second, .val (.long b3), .second, .val (.long b4), .second, .val (.long q1), .second, .val (.long q2), .second, .val (.long q3), .second, .val (.long q4), .second, .val (.long q9), .second, .val (.long pl), .second, .val (.long ph), .second, .val (.long ql), .second, .val (.long qh), .second, .val (.int (1 : Int32)), .val (.long sl), .second, .val (.long sh), .second, .unset] [(.int (1 : Int32))])) _
              refine XS.ifNo X68.here hx rfl (hb hby at_202) rfl ((if0 _ _).trans (feq (by decide : ¬ ((1 : Int32) = (0 : Int32)))).1) ?_
              show Steps p.tables e below (T68.setTop (mkF m 205 #[.val (.long b1), .second, .val (.long b2), .second, .val (.long b3), .second, .val (.long b4), .second, .val (.long q1), .second, .val (.long q2), .second, .val (.long q3), .second, .val (.long q4), .second, .val (.long q9), .second, .val (.long pl), .second, .val (.long ph), .second, .val (.long ql), .second, .val (.long qh), .second, .val (.int (1 : Int32)), .val (.long sl), .second, .val (.long sh), .second, .unset] [])) _
              refine XS.iconst X68.here hx rfl (hb hby at_205) ?_
              show Steps p.tables e below (T68.setTop (mkF m 206 #[.val (.long b1), .second, .val (.long b2), .second, .val (.long b3), .second, .val (.long b4), .second, .val (.long q1), .second, .val (.long q2), .second, .val (.long q3), .second, .val (.long q4), .second, .val (.long q9), .second, .val (.long pl), .second, .val (.long ph), .second, .val (.long ql), .second, .val (.long qh), .second, .val (.int (1 : Int32)), .val (.long sl), .second, .val (.long sh), .second, .unset] [(.int (1 : Int32))])) _
              refine XS.goto X68.here hx rfl (pc0 := 206) (pc' := 210) rfl (hb hby at_206) (by decide) (by decide) ?_
              show Steps p.tables e below (T68.setTop (mkF m 210 #[.val (.long b1), .second, .val (.long b2), .second, .val (.long b3), .second, .val (.long b4), .second, .val (.long q1), .second, .val (.long q2), .second, .val (.long q3), .second, .val (.long q4), .second, .val (.long q9), .second, .val (.long pl), .second, .val (.long ph), .second, .val (.long ql), .second, .val (.long qh), .second, .val (.int (1 : Int32)), .val (.long sl), .second, .val (.long sh), .second, .unset] [(.int (1 : Int32))])) _
              refine XS.istore X68.here hx rfl (hb hby at_210) rfl (l' := #[.val (.long b1), .second, .val (.long b2), .second, .val (.long b3), .second, .val (.long b4), .second, .val (.long q1), .second, .val (.long q2), .second, .val (.long q3), .second, .val (.long q4), .second, .val (.long q9), .second, .val (.long pl), .second, .val (.long ph), .second, .val (.long ql), .second, .val (.long qh), .second, .val (.int (1 : Int32)), .val (.long sl), .second, .val (.long sh), .second, .val (.int (1 : Int32))]) rfl ?_
              show Steps p.tables e below (T68.setTop (mkF m 212 #[.val (.long b1), .second, .val (.long b2), .second, .val (.long b3), .second, .val (.long b4), .second, .val (.long q1), .second, .val (.long q2), .second, .val (.long q3), .second, .val (.long q4), .second, .val (.long q9), .second, .val (.long pl), .second, .val (.long ph), .second, .val (.long ql), .second, .val (.long qh), .second, .val (.int (1 : Int32)), .val (.long sl), .second, .val (.long sh), .second, .val (.int (1 : Int32))] [])) _
              refine XS.iload X68.here hx rfl (hb hby at_212) rfl ?_
              show Steps p.tables e below (T68.setTop (mkF m 214 #[.val (.long b1), .second, .val (.long b2), .second, .val (.long b3), .second, .val (.long b4), .second, .val (.long q1), .second, .val (.long q2), .second, .val (.long q3), .second, .val (.long q4), .second, .val (.long q9), .second, .val (.long pl), .second, .val (.long ph), .second, .val (.long ql), .second, .val (.long qh), .second, .val (.int (1 : Int32)), .val (.long sl), .second, .val (.long sh), .second, .val (.int (1 : Int32))] [(.int (1 : Int32))])) _
              refine XS.ifNo X68.here hx rfl (hb hby at_214) rfl ((if0 _ _).trans (feq (by decide : ¬ ((1 : Int32) = (0 : Int32)))).1) ?_
              show Steps p.tables e below (T68.setTop (mkF m 217 #[.val (.long b1), .second, .val (.long b2), .second, .val (.long b3), .second, .val (.long b4), .second, .val (.long q1), .second, .val (.long q2), .second, .val (.long q3), .second, .val (.long q4), .second, .val (.long q9), .second, .val (.long pl), .second, .val (.long ph), .second, .val (.long ql), .second, .val (.long qh), .second, .val (.int (1 : Int32)), .val (.long sl), .second, .val (.long sh), .second, .val (.int (1 : Int32))] [])) _
              refine XS.iload X68.here hx rfl (hb hby at_217) rfl ?_
              show Steps p.tables e below (T68.setTop (mkF m 219 #[.val (.long b1), .second, .val (.long b2), .second, .val (.long b3), .second, .val (.long b4), .second, .val (.long q1), .second, .val (.long q2), .second, .val (.long q3), .second, .val (.long q4), .second, .val (.long q9), .second, .val (.long pl), .second, .val (.long ph), .second, .val (.long ql), .second, .val (.long qh), .second, .val (.int (1 : Int32)), .val (.long sl), .second, .val (.long sh), .second, .val (.int (1 : Int32))] [(.int (1 : Int32))])) _
              refine XS.ifNo X68.here hx rfl (hb hby at_219) rfl ((if0 _ _).trans (feq (by decide : ¬ ((1 : Int32) = (0 : Int32)))).1) ?_
              show Steps p.tables e below (T68.setTop (mkF m 222 #[.val (.long b1), .second, .val (.long b2), .second, .val (.long b3), .second, .val (.long b4), .second, .val (.long q1), .second, .val (.long q2), .second, .val (.long q3), .second, .val (.long q4), .second, .val (.long q9), .second, .val (.long pl), .second, .val (.long ph), .second, .val (.long ql), .second, .val (.long qh), .second, .val (.int (1 : Int32)), .val (.long sl), .second, .val (.long sh), .second, .val (.int (1 : Int32))] [])) _
              refine XS.iconst X68.here hx rfl (hb hby at_222) ?_
              show Steps p.tables e below (T68.setTop (mkF m 223 #[.val (.long b1), .second, .val (.long b2), .second, .val (.long b3), .second, .val (.long b4), .second, .val (.long q1), .second, .val (.long q2), .second, .val (.long q3), .second, .val (.long q4), .second, .val (.long q9), .second, .val (.long pl), .second, .val (.long ph), .second, .val (.long ql), .second, .val (.long qh), .second, .val (.int (1 : Int32)), .val (.long sl), .second, .val (.long sh), .second, .val (.int (1 : Int32))] [(.int (1 : Int32))])) _
              refine XS.goto X68.here hx rfl (pc0 := 223) (pc' := 227) rfl (hb hby at_223) (by decide) (by decide) ?_
              exact kt
            obtain ⟨fs, hr, hrun, hended, hW, hsame⟩ := X68.leave (v := some (.int (1 : Int32))) (fun h => by rw [Bd.returns] at h; cases h) (hlocks := hlk)
            refine ⟨_, _, K70 _ ?_, hrun, hended, _, _, rfl, ?_, ⟨_, rfl⟩, hW, hsame.mono (by decide) (by decide)⟩
            · exact retN X68 hx (t := .boolean) Bd.returns (by simp) (hb hby at_227) hr
            · show Qrm0 b1 b2 b3 b4 h0 n0 _ T68.heap _
              rw [e68]
              exact ⟨rfl, N68⟩
          · have K71 : ∀ t, Steps p.tables e below (T59.setTop (mkF m 209 #[.val (.long b1), .second, .val (.long b2), .second, .val (.long b3), .second, .val (.long b4), .second, .val (.long q1), .second, .val (.long q2), .second, .val (.long q3), .second, .val (.long q4), .second, .val (.long q9), .second, .val (.long pl), .second, .val (.long ph), .second, .val (.long ql), .second, .val (.long qh), .second, .val (.int (1 : Int32)), .val (.long sl), .second, .val (.long sh), .second, .unset] [])) t → Steps p.tables e below (s₁.setTop (entryFrame m #[(.long b1), (.long b2), (.long b3), (.long b4)] maxLocals)) t := by
              intro t kt
              refine K66 t ?_
              show Steps p.tables e below (T59.setTop (mkF m 192 #[.val (.long b1), .second, .val (.long b2), .second, .val (.long b3), .second, .val (.long b4), .second, .val (.long q1), .second, .val (.long q2), .second, .val (.long q3), .second, .val (.long q4), .second, .val (.long q9), .second, .val (.long pl), .second, .val (.long ph), .second, .val (.long ql), .second, .val (.long qh), .second, .val (.int (1 : Int32)), .val (.long sl), .second, .val (.long sh), .second, .unset] [(.int (lcmpW ph sh))])) _
              refine XS.ifYes X59.here hx rfl (pc0 := 192) (pc' := 209) rfl (hb hby at_192) rfl ((if0 _ _).trans (feq (e2 : ¬ ((lcmpW ph sh) = (0 : Int32)))).2) (by decide) (by decide) ?_
              exact kt
            exact absurd hlt (own_c1 hP hSS e1 e2)
    · have K72 : ∀ t, Steps p.tables e below (T27.setTop (mkF m 137 #[.val (.long b1), .second, .val (.long b2), .second, .val (.long b3), .second, .val (.long b4), .second, .val (.long q1), .second, .val (.long q2), .second, .val (.long q3), .second, .val (.long q4), .second, .val (.long q9), .second, .val (.long pl), .second, .val (.long ph), .second, .val (.long ql), .second, .val (.long qh), .second, .unset, .unset, .unset, .unset, .unset, .unset] [])) t → Steps p.tables e below (s₁.setTop (entryFrame m #[(.long b1), (.long b2), (.long b3), (.long b4)] maxLocals)) t := by
        intro t kt
        refine K49 t ?_
        show Steps p.tables e below (T27.setTop (mkF m 120 #[.val (.long b1), .second, .val (.long b2), .second, .val (.long b3), .second, .val (.long b4), .second, .val (.long q1), .second, .val (.long q2), .second, .val (.long q3), .second, .val (.long q4), .second, .val (.long q9), .second, .val (.long pl), .second, .val (.long ph), .second, .val (.long ql), .second, .val (.long qh), .second, .unset, .unset, .unset, .unset, .unset, .unset] [(.int (lcmpW qh ph))])) _
        refine XS.ifYes X27.here hx rfl (pc0 := 120) (pc' := 137) rfl (hb hby at_120) rfl ((if0 _ _).trans (feq (f2 : ¬ ((lcmpW qh ph) = (0 : Int32)))).2) (by decide) (by decide) ?_
        exact kt
      exact absurd (own_md_le hq9) (own_c3 hP hB f1 f2)
set_option maxRecDepth 65536 in
set_option maxHeartbeats 40000000 in
theorem comes_1 {Post : Tables → Env → Array Value → State → Outcome → State → Prop} (hpost : ∀ tb e args s v u, (limb_1_1.after args s (.returned v) u = true ∧ limb_1_2.after args s (.returned v) u = true ∧ True) → FrameEnd s (.returned v) u (Jvm.fieldLocs frame_1_writes args s ++ Jvm.arrayLocs frame_1_arrays args s ++ Jvm.staticLocs frame_1_statics s) 0 0 → Post tb e args s (.returned v) u) :
    ArmFor flags0 classFile x code maxLocals ret World_1 tables_1 room_1 Calls_1 rest_1 Pre_1 Post := by
  intro l hfl _ _ p e ha hc hk s m args below hf hA hF happ hP
  obtain ⟨hcalls, hrest, hpre⟩ := hP
  obtain ⟨-, -, -, hnamed, -, -, -, hat⟩ := (Spec.applies_iff hf).mp happ
  obtain ⟨hg, hn⟩ := and_e (Cond.before_iff.mp (show (Jvm.Cond.and given_1 narrow_1).before args s = true from hpre))
  obtain ⟨g1, g2⟩ := and_e hg
  obtain ⟨g3, g4⟩ := and_e g2
  obtain ⟨g5, g6⟩ := and_e g4
  obtain ⟨g7, g8⟩ := and_e g6
  obtain ⟨w0, w1, w2, w3, rfl⟩ : ∃ w0 w1 w2 w3 : Value, args = #[w0, w1, w2, w3] := by
    have hs : args.size = 4 := by simpa [Cond.value, given_1] using g1
    obtain ⟨L⟩ := args
    match L, hs with
    | [w0, w1, w2, w3], _ => exact ⟨w0, w1, w2, w3, rfl⟩
  have hw := fun d (hd : d ∈ tables_1) => atoms_spec (ws := Jvm.Cond.code x code maxLocals ret :: tables_1) hat d (List.mem_cons_of_mem _ hd)
  obtain ⟨i0, ei0⟩ := isL_v g3
  obtain rfl : w0 = (.long i0) := Option.some.inj ei0
  obtain ⟨i1, ei1⟩ := isL_v g5
  obtain rfl : w1 = (.long i1) := Option.some.inj ei1
  obtain ⟨i2, ei2⟩ := isL_v g7
  obtain rfl : w2 = (.long i2) := Option.some.inj ei2
  obtain ⟨i3, ei3⟩ := isL_v g8
  obtain rfl : w3 = (.long i3) := Option.some.inj ei3
  obtain ⟨n, o, h1, h2, h3, _, L, rfl, ⟨rfl, N⟩, hq⟩ := rm0 l s _ hw tables_1 i0 i1 i2 i3 s.heap s.heap.size (Nat.le_refl _) p e ha hc hk s m _ below hf ((Spec.applies_iff_loose hf).mp happ).1 ⟨rfl, State.Warmed39.refl s, rfl⟩ trivial
  refine ⟨n, _, h1, h2, h3, hpost _ _ _ _ _ _ ⟨Cond.after_iff.mpr rfl, Cond.after_iff.mpr (eq_i res_at (Term.int_eval (1)) rfl), trivial⟩ ⟨hq.1, hq.2.1, (hq.2.2.sift fun y hy => Or.inr (N y hy)).mono (by decide) (by decide)⟩⟩
theorem main_1_1 : Claimed_1_1 := comes_1 fun _ _ _ _ _ _ h hF => ⟨h.1, hF⟩
theorem main_1_2 : Claimed_1_2 := comes_1 fun _ _ _ _ _ _ h hF => ⟨h.2.1, hF⟩

end Jvm.Pilot.@@N@@
namespace Jvm.Pilot.@@N@@
open Jvm Jvm.ClassFile Sem Op Lib Jvm.Free Jvm.Stand Jvm.Pilot.@@N@@.Jvm.D
/-! MADE BY PROGRAM (witnessworld.py) out of the Statement's table words and the real class files: 15 classes; the members and pool entries that the words name. The judged class is class 1, her method 3. -/
namespace start1
open Jvm.ClassFile
def u (s : String) : CpInfo := .utf8 (stringToUtf16 s)
/-- a pool by its gaps: so many unusable entries, then the entry; so many at the end -/
def gap : Nat → List CpInfo → List CpInfo
  | 0, r => r
  | n + 1, r => .unusable :: gap n r
def poolList (es : List (Nat × CpInfo)) (last : Nat) : List CpInfo := es.foldr (fun e r => gap e.1 (e.2 :: r)) (gap last [])
def pool (es : List (Nat × CpInfo)) (last : Nat) : Array CpInfo := ⟨poolList es last⟩
def fileOf (pool : Array CpInfo) (this : Nat) (attrs : Array Attribute := #[]) (ms : Array MethodInfo := #[]) (fl : Nat := 33) (sup : Nat := 0) (ifs : Array Nat := #[]) (fds : Array FieldInfo := #[]) : ClassFile where
  minorVersion := 0
  majorVersion := 65
  constantPool := pool
  accessFlags := fl
  thisClass := this
  superClass := sup
  interfaces := ifs
  fields := fds
  methods := ms
  attributes := attrs
def plain (name : String) (sup : Option ClassId) : Class where
  name := name
  kind := .ordinary
  loader := none
  accessFlags := 33
  super := sup
  interfaces := #[]
  cf := none
  fields := #[]
  methods := #[]
  instanceTypes := #[]
  staticTypes := #[]
  resolved := #[]
  callSites := []
  init := .initialized
  statics := none
  mirror := none

def pool0 : Array CpInfo := pool [(5, u "<init>"), (0, u "()V"), (1, .class_ 10), (1, u "java/lang/Object")] 113

def k0m0 : Method := { name := "<init>", desc := "()V", sig := { parameters := [], returnType := none }, accessFlags := 1, code := none }
/-- java/lang/Object -/
def k0 : Class := { plain "java/lang/Object" none with
  accessFlags := 33
  interfaces := #[]
  cf := some (fileOf pool0 8 #[] #[{ accessFlags := 1, nameIndex := 5, descriptorIndex := 6, attributes := #[] }] 33 0 #[] #[])
  fields := #[]
  methods := #[k0m0]
  instanceTypes := #[]
  staticTypes := #[]
  resolved := Array.replicate 124 none
  statics := none }

def pool1 : Array CpInfo := pool [(2, .class_ 4), (1, u "java/lang/Object"), (0, u "<init>"), (0, u "()V"), (2, .long 9223372036854775808), (1, .long 4294967295), (1, .long 9223372036854775807), (1, .methodref 16 17), (0, .class_ 18), (0, .nameAndType 19 20), (0, u "java/lang/Math"), (0, u "max"), (0, u "(JJ)J"), (0, .methodref 22 23), (0, .class_ 24), (0, .nameAndType 25 26), (0, u "com/example/limtok/limtok/ExactMath"), (0, u "multiplyDivide"), (0, u "(JJJJ)J"), (0, .methodref 28 29), (0, .class_ 30), (0, .nameAndType 31 20), (0, u "com/example/limtok/limtok/ExactMathMultiplyDividePinLaw"), (0, u "mulHi"), (0, .methodref 28 33), (0, .nameAndType 34 35), (0, u "ult"), (0, u "(JJ)Z"), (3, u "law"), (0, u "(JJJJ)Z")] 2

def k1m0 : Method := { name := "<init>", desc := "()V", sig := { parameters := [], returnType := none }, accessFlags := 2, code := none }
def k1c1 : Code := { maxStack := 6, maxLocals := 4, code := method_2_code, exceptionTable := #[], attributes := #[] }
def k1m1 : Method := { name := "ult", desc := "(JJ)Z", sig := { parameters := [.long, .long], returnType := some .boolean }, accessFlags := 10, code := some k1c1 }
def k1c2 : Code := { maxStack := 6, maxLocals := 22, code := method_3_code, exceptionTable := #[], attributes := #[] }
def k1m2 : Method := { name := "mulHi", desc := "(JJ)J", sig := { parameters := [.long, .long], returnType := some .long }, accessFlags := 10, code := some k1c2 }
def k1c3 : Code := { maxStack := 8, maxLocals := 32, code := code, exceptionTable := #[], attributes := #[] }
def k1m3 : Method := { name := "law", desc := "(JJJJ)Z", sig := { parameters := [.long, .long, .long, .long], returnType := some .boolean }, accessFlags := 9, code := some k1c3 }
/-- com/example/limtok/limtok/ExactMathMultiplyDividePinLaw -/
def k1 : Class := { plain "com/example/limtok/limtok/ExactMathMultiplyDividePinLaw" (some 0) with
  accessFlags := 49
  interfaces := #[]
  cf := some (fileOf pool1 28 #[] #[{ accessFlags := 2, nameIndex := 5, descriptorIndex := 6, attributes := #[] }, { accessFlags := 10, nameIndex := 34, descriptorIndex := 35, attributes := #[] }, { accessFlags := 10, nameIndex := 31, descriptorIndex := 20, attributes := #[] }, { accessFlags := 9, nameIndex := 39, descriptorIndex := 40, attributes := #[] }] 49 2 #[] #[])
  fields := #[]
  methods := #[k1m0, k1m1, k1m2, k1m3]
  instanceTypes := #[]
  staticTypes := #[]
  resolved := Array.replicate 43 none
  statics := none }

def pool2 : Array CpInfo := pool [(1, .class_ 2), (0, u "java/lang/Math"), (1, .class_ 6), (1, u "java/lang/Object"), (0, u "<init>"), (0, u "()V"), (89, .class_ 100), (1, u "java/lang/Math$RandomNumberGeneratorHolder"), (20, u "(JJ)J"), (16, .long 4294967295), (3, u "multiplyHigh"), (29, u "negativeZeroFloatBits"), (0, u "J"), (2, u "negativeZeroDoubleBits"), (21, u "max"), (46, u "$assertionsDisabled"), (0, u "Z"), (91, u "twoToTheDoubleScaleDown"), (0, u "D"), (4, u "twoToTheDoubleScaleUp"), (9, u "E"), (3, u "PI"), (2, u "TAU"), (2, u "DEGREES_TO_RADIANS"), (0, u "RADIANS_TO_DEGREES")] 94

def k2m0 : Method := { name := "<init>", desc := "()V", sig := { parameters := [], returnType := none }, accessFlags := 2, code := none }
def k2c1 : Code := { maxStack := 6, maxLocals := 20, code := jdk_29_method_45_code, exceptionTable := #[], attributes := #[] }
def k2m1 : Method := { name := "multiplyHigh", desc := "(JJ)J", sig := { parameters := [.long, .long], returnType := some .long }, accessFlags := 9, code := some k2c1 }
def k2c2 : Code := { maxStack := 4, maxLocals := 4, code := jdk_29_method_66_code, exceptionTable := #[], attributes := #[] }
def k2m2 : Method := { name := "max", desc := "(JJ)J", sig := { parameters := [.long, .long], returnType := some .long }, accessFlags := 9, code := some k2c2 }
/-- java/lang/Math -/
def k2 : Class := { plain "java/lang/Math" (some 0) with
  accessFlags := 49
  interfaces := #[]
  cf := some (fileOf pool2 1 #[.nestMembers #[98]] #[{ accessFlags := 2, nameIndex := 7, descriptorIndex := 8, attributes := #[] }, { accessFlags := 9, nameIndex := 142, descriptorIndex := 121, attributes := #[] }, { accessFlags := 9, nameIndex := 198, descriptorIndex := 121, attributes := #[] }] 49 4 #[] #[{ accessFlags := 25, nameIndex := 354, descriptorIndex := 339, attributes := #[] }, { accessFlags := 25, nameIndex := 358, descriptorIndex := 339, attributes := #[] }, { accessFlags := 25, nameIndex := 361, descriptorIndex := 339, attributes := #[] }, { accessFlags := 26, nameIndex := 364, descriptorIndex := 339, attributes := #[] }, { accessFlags := 26, nameIndex := 365, descriptorIndex := 339, attributes := #[] }, { accessFlags := 26, nameIndex := 172, descriptorIndex := 173, attributes := #[] }, { accessFlags := 26, nameIndex := 176, descriptorIndex := 173, attributes := #[] }, { accessFlags := 8, nameIndex := 344, descriptorIndex := 339, attributes := #[] }, { accessFlags := 8, nameIndex := 338, descriptorIndex := 339, attributes := #[] }, { accessFlags := 4120, nameIndex := 245, descriptorIndex := 246, attributes := #[] }])
  fields := #[{ name := "E", type := .double, accessFlags := 25, slot := 0, constantValue := 0 }, { name := "PI", type := .double, accessFlags := 25, slot := 1, constantValue := 0 }, { name := "TAU", type := .double, accessFlags := 25, slot := 2, constantValue := 0 }, { name := "DEGREES_TO_RADIANS", type := .double, accessFlags := 26, slot := 3, constantValue := 0 }, { name := "RADIANS_TO_DEGREES", type := .double, accessFlags := 26, slot := 4, constantValue := 0 }, { name := "negativeZeroFloatBits", type := .long, accessFlags := 26, slot := 5, constantValue := 0 }, { name := "negativeZeroDoubleBits", type := .long, accessFlags := 26, slot := 6, constantValue := 0 }, { name := "twoToTheDoubleScaleUp", type := .double, accessFlags := 8, slot := 7, constantValue := 0 }, { name := "twoToTheDoubleScaleDown", type := .double, accessFlags := 8, slot := 8, constantValue := 0 }, { name := "$assertionsDisabled", type := .boolean, accessFlags := 4120, slot := 9, constantValue := 0 }]
  methods := #[k2m0, k2m1, k2m2]
  instanceTypes := #[]
  staticTypes := #[.double, .double, .double, .double, .double, .long, .long, .double, .double, .boolean]
  resolved := Array.replicate 460 none
  statics := none }

def pool3 : Array CpInfo := pool [(2, .class_ 4), (1, u "java/lang/Object"), (0, u "<init>"), (0, u "()V"), (0, .methodref 8 9), (0, .class_ 10), (0, .nameAndType 11 12), (0, u "java/lang/Math"), (0, u "multiplyHigh"), (0, u "(JJ)J"), (0, .methodref 14 15), (0, .class_ 16), (0, .nameAndType 17 18), (0, u "com/example/limtok/limtok/ExactMath"), (0, u "multiplyDivideWide"), (0, u "(JJJJ)J"), (0, .methodref 20 21), (0, .class_ 22), (0, .nameAndType 23 24), (0, u "java/lang/Long"), (0, u "compareUnsigned"), (0, u "(JJ)I"), (0, .long 9223372036854775807), (1, .methodref 14 28), (0, .nameAndType 29 30), (0, u "divideWide"), (0, u "(JJJ)J"), (2, u "multiplyDivide")] 3

def k3m0 : Method := { name := "<init>", desc := "()V", sig := { parameters := [], returnType := none }, accessFlags := 2, code := none }
def k3c1 : Code := { maxStack := 8, maxLocals := 14, code := prog_23_method_2_code, exceptionTable := #[], attributes := #[] }
def k3m1 : Method := { name := "multiplyDivide", desc := "(JJJJ)J", sig := { parameters := [.long, .long, .long, .long], returnType := some .long }, accessFlags := 8, code := some k3c1 }
def k3c2 : Code := { maxStack := 6, maxLocals := 14, code := prog_23_method_3_code, exceptionTable := #[], attributes := #[] }
def k3m2 : Method := { name := "multiplyDivideWide", desc := "(JJJJ)J", sig := { parameters := [.long, .long, .long, .long], returnType := some .long }, accessFlags := 10, code := some k3c2 }
def k3c3 : Code := { maxStack := 6, maxLocals := 11, code := prog_23_method_4_code, exceptionTable := #[], attributes := #[] }
def k3m3 : Method := { name := "divideWide", desc := "(JJJ)J", sig := { parameters := [.long, .long, .long], returnType := some .long }, accessFlags := 10, code := some k3c3 }
/-- com/example/limtok/limtok/ExactMath -/
def k3 : Class := { plain "com/example/limtok/limtok/ExactMath" (some 0) with
  accessFlags := 48
  interfaces := #[]
  cf := some (fileOf pool3 14 #[] #[{ accessFlags := 2, nameIndex := 5, descriptorIndex := 6, attributes := #[] }, { accessFlags := 8, nameIndex := 33, descriptorIndex := 18, attributes := #[] }, { accessFlags := 10, nameIndex := 17, descriptorIndex := 18, attributes := #[] }, { accessFlags := 10, nameIndex := 29, descriptorIndex := 30, attributes := #[] }] 48 2 #[] #[])
  fields := #[]
  methods := #[k3m0, k3m1, k3m2, k3m3]
  instanceTypes := #[]
  staticTypes := #[]
  resolved := Array.replicate 37 none
  statics := none }

def pool4 : Array CpInfo := pool [(1, .class_ 2), (0, u "java/io/Serializable"), (0, .class_ 4), (0, u "java/lang/Object")] 2

/-- java/io/Serializable -/
def k4 : Class := { plain "java/io/Serializable" (some 0) with
  accessFlags := 1537
  interfaces := #[]
  cf := some (fileOf pool4 1 #[] #[] 1537 3 #[] #[])
  fields := #[]
  methods := #[]
  instanceTypes := #[]
  staticTypes := #[]
  resolved := Array.replicate 7 none
  statics := none }

def pool5 : Array CpInfo := pool [(2, .class_ 4), (1, u "java/lang/Object"), (0, u "<init>"), (0, u "()V"), (1, .class_ 10), (1, u "java/lang/Number"), (2, .class_ 14), (0, u "java/io/Serializable"), (0, u "serialVersionUID"), (0, u "J")] 20

def k5m0 : Method := { name := "<init>", desc := "()V", sig := { parameters := [], returnType := none }, accessFlags := 1, code := none }
/-- java/lang/Number -/
def k5 : Class := { plain "java/lang/Number" (some 0) with
  accessFlags := 1057
  interfaces := #[4]
  cf := some (fileOf pool5 8 #[] #[{ accessFlags := 1, nameIndex := 5, descriptorIndex := 6, attributes := #[] }] 1057 2 #[13] #[{ accessFlags := 26, nameIndex := 15, descriptorIndex := 16, attributes := #[] }])
  fields := #[{ name := "serialVersionUID", type := .long, accessFlags := 26, slot := 0, constantValue := 0 }]
  methods := #[k5m0]
  instanceTypes := #[]
  staticTypes := #[.long]
  resolved := Array.replicate 37 none
  statics := none }

def pool6 : Array CpInfo := pool [(1, .class_ 2), (0, u "java/lang/Comparable"), (0, .class_ 4), (0, u "java/lang/Object")] 7

/-- java/lang/Comparable -/
def k6 : Class := { plain "java/lang/Comparable" (some 0) with
  accessFlags := 1537
  interfaces := #[]
  cf := some (fileOf pool6 1 #[] #[] 1537 3 #[] #[])
  fields := #[]
  methods := #[]
  instanceTypes := #[]
  staticTypes := #[]
  resolved := Array.replicate 12 none
  statics := none }

def pool7 : Array CpInfo := pool [(1, .class_ 2), (0, u "java/lang/constant/Constable"), (0, .class_ 4), (0, u "java/lang/Object")] 6

/-- java/lang/constant/Constable -/
def k7 : Class := { plain "java/lang/constant/Constable" (some 0) with
  accessFlags := 1537
  interfaces := #[]
  cf := some (fileOf pool7 1 #[] #[] 1537 3 #[] #[])
  fields := #[]
  methods := #[]
  instanceTypes := #[]
  staticTypes := #[]
  resolved := Array.replicate 11 none
  statics := none }

def pool8 : Array CpInfo := pool [(1, .class_ 2), (0, u "java/lang/constant/ConstantDesc"), (0, .class_ 4), (0, u "java/lang/Object")] 32

/-- java/lang/constant/ConstantDesc -/
def k8 : Class := { plain "java/lang/constant/ConstantDesc" (some 0) with
  accessFlags := 1537
  interfaces := #[]
  cf := some (fileOf pool8 1 #[] #[] 1537 3 #[] #[])
  fields := #[]
  methods := #[]
  instanceTypes := #[]
  staticTypes := #[]
  resolved := Array.replicate 37 none
  statics := none }

def pool9 : Array CpInfo := pool [(1, .class_ 2), (0, u "java/lang/Long"), (165, .long 9223372036854775808), (66, .class_ 237), (1, u "java/lang/Long$LongCache"), (33, .class_ 272), (0, u "java/lang/Number"), (2, u "value"), (0, u "J"), (25, .methodref 1 303), (0, .nameAndType 304 305), (0, u "compare"), (0, u "(JJ)I"), (55, u "TYPE"), (0, u "Ljava/lang/Class;"), (0, .class_ 364), (0, u "java/lang/Comparable"), (0, .class_ 366), (0, u "java/lang/constant/Constable"), (0, .class_ 368), (0, u "java/lang/constant/ConstantDesc"), (0, u "MIN_VALUE"), (1, u "MAX_VALUE"), (4, u "SIZE"), (0, u "I"), (1, u "BYTES"), (1, u "serialVersionUID"), (87, u "compareUnsigned")] 54

def k9c0 : Code := { maxStack := 4, maxLocals := 4, code := jdk_35_method_42_code, exceptionTable := #[], attributes := #[] }
def k9m0 : Method := { name := "compare", desc := "(JJ)I", sig := { parameters := [.long, .long], returnType := some .int }, accessFlags := 9, code := some k9c0 }
def k9c1 : Code := { maxStack := 6, maxLocals := 4, code := jdk_35_method_43_code, exceptionTable := #[], attributes := #[] }
def k9m1 : Method := { name := "compareUnsigned", desc := "(JJ)I", sig := { parameters := [.long, .long], returnType := some .int }, accessFlags := 9, code := some k9c1 }
/-- java/lang/Long -/
def k9 : Class := { plain "java/lang/Long" (some 5) with
  accessFlags := 49
  interfaces := #[6, 7, 8]
  cf := some (fileOf pool9 1 #[.nestMembers #[235]] #[{ accessFlags := 9, nameIndex := 304, descriptorIndex := 305, attributes := #[] }, { accessFlags := 9, nameIndex := 469, descriptorIndex := 305, attributes := #[] }] 49 271 #[363, 365, 367] #[{ accessFlags := 25, nameIndex := 369, descriptorIndex := 276, attributes := #[] }, { accessFlags := 25, nameIndex := 371, descriptorIndex := 276, attributes := #[] }, { accessFlags := 25, nameIndex := 361, descriptorIndex := 362, attributes := #[] }, { accessFlags := 18, nameIndex := 275, descriptorIndex := 276, attributes := #[] }, { accessFlags := 25, nameIndex := 376, descriptorIndex := 377, attributes := #[] }, { accessFlags := 25, nameIndex := 379, descriptorIndex := 377, attributes := #[] }, { accessFlags := 26, nameIndex := 381, descriptorIndex := 276, attributes := #[] }])
  fields := #[{ name := "MIN_VALUE", type := .long, accessFlags := 25, slot := 0, constantValue := 0 }, { name := "MAX_VALUE", type := .long, accessFlags := 25, slot := 1, constantValue := 0 }, { name := "TYPE", type := (.object "java/lang/Class"), accessFlags := 25, slot := 2, constantValue := 0 }, { name := "value", type := .long, accessFlags := 18, slot := 0, constantValue := 0 }, { name := "SIZE", type := .int, accessFlags := 25, slot := 3, constantValue := 0 }, { name := "BYTES", type := .int, accessFlags := 25, slot := 4, constantValue := 0 }, { name := "serialVersionUID", type := .long, accessFlags := 26, slot := 5, constantValue := 0 }]
  methods := #[k9m0, k9m1]
  instanceTypes := #[.long]
  staticTypes := #[.long, .long, (.object "java/lang/Class"), .int, .int, .long]
  resolved := Array.replicate 524 none
  statics := none }

def pool10 : Array CpInfo := pool [(1, u "java/lang/Cloneable"), (0, .class_ 1), (0, u "java/lang/Object"), (0, .class_ 3)] 3

/-- java/lang/Cloneable -/
def k10 : Class := { plain "java/lang/Cloneable" (some 0) with
  accessFlags := 1537
  interfaces := #[]
  cf := some (fileOf pool10 2 #[] #[] 1537 4 #[] #[])
  fields := #[]
  methods := #[]
  instanceTypes := #[]
  staticTypes := #[]
  resolved := Array.replicate 8 none
  statics := none }

/-- the primitive byte -/
def k11 : Class := { plain "byte" none with kind := .primitive 'B', accessFlags := 0x411 }
/-- [B -/
def k12 : Class := { plain "[B" (some 0) with kind := .array 11 .byte, interfaces := #[10, 4], accessFlags := 1041 }

/-- the primitive int -/
def k13 : Class := { plain "int" none with kind := .primitive 'I', accessFlags := 0x411 }
/-- [I -/
def k14 : Class := { plain "[I" (some 0) with kind := .array 13 .int, interfaces := #[10, 4], accessFlags := 1041 }

def heap : Heap := #[]
def classes : Array Class := #[k0, k1, k2, k3, k4, k5, k6, k7, k8, k9, k10, k11, k12, k13, k14]
def interned : List (Array UInt16 × Addr) := []
def slotsUsed : Nat := 0
def theMethod : MethodId := ⟨1, 3⟩
def args0 : Array Value := #[.long 5, .long 7, .long 6, .long 9]
def aboutOver (below : List Frame) : State where
  vm := { classes := classes, interned := interned.toArray }
  heap := heap
  slotsUsed := slotsUsed
  threads := #[{ frames := .invoking theMethod args0 :: below }]
def below0 : List Frame := [.native { method := ⟨0, 0⟩, args := #[] }]
def about1 : State := aboutOver below0
def p0 : Program := .bare "" "" ""
def e0 : Env := launch0.env 0 0 0
theorem w_frames : about1.frames = Frame.invoking theMethod args0 :: below0 := rfl
set_option maxRecDepth 65536 in
theorem w_args : argsFit about1.vm theMethod args0 = true := by decide +kernel
set_option maxRecDepth 65536 in
theorem w_heap : heapFits about1 = true := by decide +kernel
set_option maxRecDepth 65536 in
theorem w_runnable : about1.curStatus? = some .runnable := by decide +kernel
set_option maxRecDepth 65536 in
theorem w_alone : about1.alone = true := by decide +kernel
set_option maxRecDepth 65536 in
theorem w_named : about1.methodNamed? x = some theMethod := by decide +kernel
set_option maxRecDepth 65536 in
theorem w_hears : about1.hears theMethod below0 = true := by decide +kernel
set_option maxRecDepth 65536 in
theorem w_ripe : about1.ripe theMethod args0 below0 = true := by decide +kernel
theorem w_running : about1.status = .running := rfl
set_option maxRecDepth 65536 in
theorem w_room : about1.hasRoom e0.platform room_1 = true :=
  launch0.hasRoom_least _ room_1 (by decide +kernel) (by decide +kernel) (by decide +kernel) (by decide +kernel) (by decide +kernel) (by decide +kernel)
theorem allAtoms_all (ts : List Jvm.Cond) (a : Array Jvm.Value) (st : Jvm.State) : (allAtoms ts).before a st = ts.all (fun c => c.before a st) := by
  induction ts with
  | nil => rfl
  | cons c t ih =>
    show (Jvm.Cond.and c (allAtoms t)).before a st = _
    rw [Jvm.Cond.before_and, ih, List.all_cons]
def words1 : List Jvm.Cond := Jvm.Cond.code x code maxLocals ret :: tables_1
/-- a 'code' word, met by the world's own term for the bytes: nothing is compared byte by byte -/
theorem code_word {y : MethodName} {bytes : ByteArray} {mx : Nat} {rt : Option FieldType} {a : Array Value} {s : State} {m : MethodId} {meth : Method} {c : Code} (h1 : s.methodNamed? y = some m) (h2 : s.vm.method? m = some meth) (h3 : meth.code = some c) (h4 : c.code = bytes)
    (h5 : (c.maxLocals == mx && c.exceptionTable.isEmpty && decide (c.maxStack ≤ mostOperands) && decide (meth.sig.returnType = rt) && !meth.locks && decide (parseMethodDescriptor y.desc = some meth.sig)) = true) : (Jvm.Cond.code y bytes mx rt).before a s = true := by
  simp only [Bool.and_eq_true, beq_iff_eq, Bool.not_eq_true', decide_eq_true_eq] at h5
  obtain ⟨⟨⟨⟨⟨g1, g2⟩, g3⟩, g4⟩, g5⟩, g6⟩ := h5
  simp [Cond.before, Cond.holds, Cond.value, h1, h2, h3, h4, g1, g2, g3, g4, g5, g6]
def isCode : Jvm.Cond → Bool
  | .code _ _ _ _ => true
  | _ => false
theorem all_split {L : List Jvm.Cond} {P : Jvm.Cond → Bool} (h1 : L.all (fun c => isCode c || P c) = true) (h2 : ∀ c ∈ L.filter isCode, P c = true) : L.all P = true := by
  refine List.all_eq_true.mpr fun c hc => ?_
  have h := List.all_eq_true.mp h1 c hc
  rcases Bool.eq_false_or_eq_true (isCode c) with hi | hi
  · exact h2 c (List.mem_filter.mpr ⟨hc, hi⟩)
  · simpa [hi] using h
set_option maxRecDepth 65536 in
theorem w_c0 : (Jvm.Cond.code x code maxLocals ret).before args0 about1 = true := code_word (m := ⟨1, 3⟩) (meth := k1m3) (c := k1c3) (by decide +kernel) rfl rfl rfl (by decide +kernel)
set_option maxRecDepth 65536 in
theorem w_c1 : (Jvm.Cond.code ({ cls := "java/lang/Math", name := "max", desc := "(JJ)J" } : Jvm.MethodName) jdk_29_method_66_code (4 : Nat) (Option.some Jvm.ClassFile.FieldType.long)).before args0 about1 = true := code_word (m := ⟨2, 2⟩) (meth := k2m2) (c := k2c2) (by decide +kernel) rfl rfl rfl (by decide +kernel)
set_option maxRecDepth 65536 in
theorem w_c2 : (Jvm.Cond.code ({ cls := "com/example/limtok/limtok/ExactMath", name := "multiplyDivide", desc := "(JJJJ)J" } : Jvm.MethodName) prog_23_method_2_code (14 : Nat) (Option.some Jvm.ClassFile.FieldType.long)).before args0 about1 = true := code_word (m := ⟨3, 1⟩) (meth := k3m1) (c := k3c1) (by decide +kernel) rfl rfl rfl (by decide +kernel)
set_option maxRecDepth 65536 in
theorem w_c3 : (Jvm.Cond.code ({ cls := "java/lang/Math", name := "multiplyHigh", desc := "(JJ)J" } : Jvm.MethodName) jdk_29_method_45_code (20 : Nat) (Option.some Jvm.ClassFile.FieldType.long)).before args0 about1 = true := code_word (m := ⟨2, 1⟩) (meth := k2m1) (c := k2c1) (by decide +kernel) rfl rfl rfl (by decide +kernel)
set_option maxRecDepth 65536 in
theorem w_c4 : (Jvm.Cond.code ({ cls := "com/example/limtok/limtok/ExactMathMultiplyDividePinLaw", name := "mulHi", desc := "(JJ)J" } : Jvm.MethodName) method_3_code (22 : Nat) (Option.some Jvm.ClassFile.FieldType.long)).before args0 about1 = true := code_word (m := ⟨1, 2⟩) (meth := k1m2) (c := k1c2) (by decide +kernel) rfl rfl rfl (by decide +kernel)
set_option maxRecDepth 65536 in
theorem w_c5 : (Jvm.Cond.code ({ cls := "com/example/limtok/limtok/ExactMathMultiplyDividePinLaw", name := "ult", desc := "(JJ)Z" } : Jvm.MethodName) method_2_code (4 : Nat) (Option.some Jvm.ClassFile.FieldType.boolean)).before args0 about1 = true := code_word (m := ⟨1, 1⟩) (meth := k1m1) (c := k1c1) (by decide +kernel) rfl rfl rfl (by decide +kernel)
set_option maxRecDepth 65536 in
theorem w_c6 : (Jvm.Cond.code ({ cls := "com/example/limtok/limtok/ExactMath", name := "multiplyDivideWide", desc := "(JJJJ)J" } : Jvm.MethodName) prog_23_method_3_code (14 : Nat) (Option.some Jvm.ClassFile.FieldType.long)).before args0 about1 = true := code_word (m := ⟨3, 2⟩) (meth := k3m2) (c := k3c2) (by decide +kernel) rfl rfl rfl (by decide +kernel)
set_option maxRecDepth 65536 in
theorem w_c7 : (Jvm.Cond.code ({ cls := "java/lang/Long", name := "compareUnsigned", desc := "(JJ)I" } : Jvm.MethodName) jdk_35_method_43_code (4 : Nat) (Option.some Jvm.ClassFile.FieldType.int)).before args0 about1 = true := code_word (m := ⟨9, 1⟩) (meth := k9m1) (c := k9c1) (by decide +kernel) rfl rfl rfl (by decide +kernel)
set_option maxRecDepth 65536 in
theorem w_c8 : (Jvm.Cond.code ({ cls := "java/lang/Long", name := "compare", desc := "(JJ)I" } : Jvm.MethodName) jdk_35_method_42_code (4 : Nat) (Option.some Jvm.ClassFile.FieldType.int)).before args0 about1 = true := code_word (m := ⟨9, 0⟩) (meth := k9m0) (c := k9c0) (by decide +kernel) rfl rfl rfl (by decide +kernel)
set_option maxRecDepth 65536 in
theorem w_c9 : (Jvm.Cond.code ({ cls := "com/example/limtok/limtok/ExactMath", name := "divideWide", desc := "(JJJ)J" } : Jvm.MethodName) prog_23_method_4_code (11 : Nat) (Option.some Jvm.ClassFile.FieldType.long)).before args0 about1 = true := code_word (m := ⟨3, 3⟩) (meth := k3m3) (c := k3c3) (by decide +kernel) rfl rfl rfl (by decide +kernel)
def codes1 : List Jvm.Cond := [Jvm.Cond.code x code maxLocals ret, Jvm.Cond.code ({ cls := "java/lang/Math", name := "max", desc := "(JJ)J" } : Jvm.MethodName) jdk_29_method_66_code (4 : Nat) (Option.some Jvm.ClassFile.FieldType.long), Jvm.Cond.code ({ cls := "com/example/limtok/limtok/ExactMath", name := "multiplyDivide", desc := "(JJJJ)J" } : Jvm.MethodName) prog_23_method_2_code (14 : Nat) (Option.some Jvm.ClassFile.FieldType.long), Jvm.Cond.code ({ cls := "java/lang/Math", name := "multiplyHigh", desc := "(JJ)J" } : Jvm.MethodName) jdk_29_method_45_code (20 : Nat) (Option.some Jvm.ClassFile.FieldType.long), Jvm.Cond.code ({ cls := "com/example/limtok/limtok/ExactMathMultiplyDividePinLaw", name := "mulHi", desc := "(JJ)J" } : Jvm.MethodName) method_3_code (22 : Nat) (Option.some Jvm.ClassFile.FieldType.long), Jvm.Cond.code ({ cls := "com/example/limtok/limtok/ExactMathMultiplyDividePinLaw", name := "ult", desc := "(JJ)Z" } : Jvm.MethodName) method_2_code (4 : Nat) (Option.some Jvm.ClassFile.FieldType.boolean), Jvm.Cond.code ({ cls := "com/example/limtok/limtok/ExactMath", name := "multiplyDivideWide", desc := "(JJJJ)J" } : Jvm.MethodName) prog_23_method_3_code (14 : Nat) (Option.some Jvm.ClassFile.FieldType.long), Jvm.Cond.code ({ cls := "java/lang/Long", name := "compareUnsigned", desc := "(JJ)I" } : Jvm.MethodName) jdk_35_method_43_code (4 : Nat) (Option.some Jvm.ClassFile.FieldType.int), Jvm.Cond.code ({ cls := "java/lang/Long", name := "compare", desc := "(JJ)I" } : Jvm.MethodName) jdk_35_method_42_code (4 : Nat) (Option.some Jvm.ClassFile.FieldType.int), Jvm.Cond.code ({ cls := "com/example/limtok/limtok/ExactMath", name := "divideWide", desc := "(JJJ)J" } : Jvm.MethodName) prog_23_method_4_code (11 : Nat) (Option.some Jvm.ClassFile.FieldType.long)]
set_option maxRecDepth 65536 in
theorem codes_eq : words1.filter isCode = codes1 := rfl
theorem w_codes : ∀ c ∈ words1.filter isCode, c.before args0 about1 = true := by
  rw [codes_eq]
  intro c hc
  simp only [codes1, List.mem_cons, List.not_mem_nil, or_false] at hc
  rcases hc with rfl | rfl | rfl | rfl | rfl | rfl | rfl | rfl | rfl | rfl
  · exact w_c0
  · exact w_c1
  · exact w_c2
  · exact w_c3
  · exact w_c4
  · exact w_c5
  · exact w_c6
  · exact w_c7
  · exact w_c8
  · exact w_c9
set_option maxRecDepth 65536 in
theorem w_t1 : (words1.take 24).all (fun c => isCode c || c.before args0 about1) = true := by decide +kernel
set_option maxRecDepth 65536 in
theorem w_t2 : (words1.drop 24).all (fun c => isCode c || c.before args0 about1) = true := by decide +kernel
theorem w_tables : (allAtoms (Jvm.Cond.code x code maxLocals ret :: tables_1)).before args0 about1 = true := by
  rw [allAtoms_all]
  show words1.all (fun c => c.before args0 about1) = true
  refine all_split ?_ w_codes
  rw [← List.take_append_drop 24 words1, List.all_append, w_t1, w_t2]
  rfl
set_option maxRecDepth 65536 in
theorem w_case : (Jvm.Cond.and given_1 narrow_1).before args0 about1 = true := by decide +kernel
theorem w_applies : (headSpec (Jvm.Cond.code x code maxLocals ret :: tables_1) room_1).applies x e0.platform about1 = true :=
  (Spec.applies_iff w_frames).mpr ⟨w_running, w_runnable, w_alone, w_named, w_hears, w_ripe, w_room, w_tables⟩
theorem atStart : AtStart classFile x code maxLocals ret World_1 tables_1 room_1 Calls_1 rest_1 Pre_1 launch0 p0 e0 about1 theMethod args0 below0 :=
  ⟨lists_1, trivial, launch0.admits_env _ _ _, launch0.least_env, fairChoices_fair.cas, fairChoices_fair.clock, w_frames, w_args, w_heap, w_applies, trivial, trivial, w_case⟩
end start1
theorem witness_1 : WitnessClaimed_1 := ⟨start1.p0, start1.e0, start1.about1, start1.theMethod, start1.args0, start1.below0, start1.atStart⟩
end Jvm.Pilot.@@N@@
