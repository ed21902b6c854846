import JvmDerived
import JvmDerived.Pilot.@@N@@Statement
import JvmDerived.Pilot.@@N@@Code
set_option linter.unusedVariables false
set_option linter.unusedSimpArgs false
namespace Jvm.RoadKit
open Sem ClassFile Op Lib Jvm.Stand Jvm.Free Jvm.LawKit
section New
variable {p : Program} {l : Launch} {e : Env} {R : Room} {s : State} {m : MethodId} {args : Array Value} {below : List Frame} {meth : Method} {c : Code} {T : State} {locs : List Loc} {cells slots : Nat}
theorem retI (X : Stand p l e R s m args below meth c T locs cells slots) (hx : p.tables.exec = Jvm.exec) {pc : Nat} {Ls : Array Slot} {z : Int32} {rest : List Value} (hret : meth.sig.returnType = some .int) (hd : decode c.code pc = .ok (.ireturn, 1)) {fs : List Frame}
    (hl : ∀ (f : JFrame) (acts : List Action), f.method = m → f.locked = none → f.entered = [] → (doReturn e (T.setTop f) acts (some (.int z))).1 = T.setFrames fs) : Steps p.tables e below (T.setTop (mkF m pc Ls (.int z :: rest))) (T.setFrames fs) := by
  have hm' : T.vm.method? m = some meth := X.method'
  have hn : narrow .int (.int z) = .int z := rfl
  show Steps p.tables e below (T.setTop { method := m, pc := pc, locals := Ls, stack := _ :: rest, locked := none }) _
  jvm_step X.here [X.here.top, hx, hd, hm', hret, hn]
  first | (intro acts; rw [hl _ acts rfl rfl rfl]) | rw [hl _ _ rfl rfl rfl]
  exact Steps.refl _
end New
end Jvm.RoadKit
namespace Jvm.Pilot.@@N@@
open Jvm Jvm.ClassFile Sem Op Lib Jvm.Free Jvm.Stand Jvm.LawKit Jvm.RoadKit Bundle Jvm.Pilot.@@N@@.Jvm.D
theorem pn_0 : plainName "java/util/AbstractCollection" = true := by first | (simp [plainName, overriddenIn]; done) | decide +kernel
theorem pn_1 : plainName "java/lang/Number" = true := by first | (simp [plainName, overriddenIn]; done) | decide +kernel
theorem pn_2 : plainName "com/example/tranchery/tranchery/Cents" = true := by first | (simp [plainName, overriddenIn]; done) | decide +kernel
theorem pd_0 : parseMethodDescriptor "([J)V" = some ⟨[(.array .long)], none⟩ := by decide +kernel
theorem pd_1 : parseMethodDescriptor "(JJ)J" = some ⟨[.long, .long], some .long⟩ := by decide +kernel
theorem pd_2 : parseMethodDescriptor "()V" = some ⟨[], none⟩ := by decide +kernel
theorem pn_3 : plainName "java/math/BigDecimal" = true := by first | (simp [plainName, overriddenIn]; done) | decide +kernel
theorem pd_3 : parseMethodDescriptor "(I)Ljava/math/BigDecimal;" = some ⟨[.int], some (.object "java/math/BigDecimal")⟩ := by decide +kernel
theorem pd_4 : parseMethodDescriptor "(Ljava/math/BigInteger;JII)V" = some ⟨[(.object "java/math/BigInteger"), .long, .int, .int], none⟩ := by decide +kernel
theorem pd_5 : parseMethodDescriptor "(JI)Ljava/math/BigDecimal;" = some ⟨[.long, .int], some (.object "java/math/BigDecimal")⟩ := by decide +kernel
theorem pn_4 : plainName "java/util/AbstractList" = true := by first | (simp [plainName, overriddenIn]; done) | decide +kernel
theorem pn_5 : plainName "java/util/ArrayList" = true := by first | (simp [plainName, overriddenIn]; done) | decide +kernel
theorem pd_6 : parseMethodDescriptor "(Ljava/lang/Object;[Ljava/lang/Object;I)V" = some ⟨[(.object "java/lang/Object"), (.array (.object "java/lang/Object")), .int], none⟩ := by decide +kernel
theorem pd_7 : parseMethodDescriptor "(I)V" = some ⟨[.int], none⟩ := by decide +kernel
theorem pd_8 : parseMethodDescriptor "(Ljava/lang/Object;)Z" = some ⟨[(.object "java/lang/Object")], some .boolean⟩ := by decide +kernel
theorem pn_6 : plainName "jdk/internal/util/Preconditions" = true := by first | (simp [plainName, overriddenIn]; done) | decide +kernel
theorem pd_9 : parseMethodDescriptor "(IILjava/util/function/BiFunction;)I" = some ⟨[.int, .int, (.object "java/util/function/BiFunction")], some .int⟩ := by decide +kernel
theorem pn_7 : plainName "java/util/Objects" = true := by first | (simp [plainName, overriddenIn]; done) | decide +kernel
theorem pd_10 : parseMethodDescriptor "(II)I" = some ⟨[.int, .int], some .int⟩ := by decide +kernel
theorem pd_11 : parseMethodDescriptor "(I)Ljava/lang/Object;" = some ⟨[.int], some (.object "java/lang/Object")⟩ := by decide +kernel
theorem pd_12 : parseMethodDescriptor "(J)I" = some ⟨[.long], some .int⟩ := by decide +kernel
theorem pd_13 : parseMethodDescriptor "()J" = some ⟨[], some .long⟩ := by decide +kernel
theorem pd_14 : parseMethodDescriptor "()I" = some ⟨[], some .int⟩ := by decide +kernel
theorem pd_15 : parseMethodDescriptor "(Ljava/math/BigDecimal;)J" = some ⟨[(.object "java/math/BigDecimal")], some .long⟩ := by decide +kernel
theorem pd_16 : parseMethodDescriptor "(I)Lcom/example/tranchery/tranchery/Cents;" = some ⟨[.int], some (.object "com/example/tranchery/tranchery/Cents")⟩ := by decide +kernel
theorem pd_17 : parseMethodDescriptor "(IIJ)Lcom/example/tranchery/tranchery/Cents;" = some ⟨[.int, .int, .long], some (.object "com/example/tranchery/tranchery/Cents")⟩ := by decide +kernel
theorem pd_18 : parseMethodDescriptor "()Ljava/util/List;" = some ⟨[], some (.object "java/util/List")⟩ := by decide +kernel
theorem pd_19 : parseMethodDescriptor "(Ljava/util/List;)Lcom/example/tranchery/tranchery/Cents;" = some ⟨[(.object "java/util/List")], some (.object "com/example/tranchery/tranchery/Cents")⟩ := by decide +kernel
theorem pd_20 : parseMethodDescriptor "(I)J" = some ⟨[.int], some .long⟩ := by decide +kernel
theorem pn_8 : plainName "com/example/tranchery/tranchery/CentsOfPinLaw" = true := by first | (simp [plainName, overriddenIn]; done) | decide +kernel
theorem d1_0 : decode prog_5_method_3_code 0 = .ok (.new 10, 3) := by decide +kernel
theorem d1_3 : decode prog_5_method_3_code 3 = .ok (.dup, 1) := by decide +kernel
theorem d1_4 : decode prog_5_method_3_code 4 = .ok (.iload_n 0, 1) := by decide +kernel
theorem d1_5 : decode prog_5_method_3_code 5 = .ok (.newarray .long, 2) := by decide +kernel
theorem d1_7 : decode prog_5_method_3_code 7 = .ok (.invokespecial 31, 3) := by decide +kernel
theorem d1_10 : decode prog_5_method_3_code 10 = .ok (.areturn, 1) := by decide +kernel
theorem d2_0 : decode prog_5_method_1_code 0 = .ok (.aload_n 0, 1) := by decide +kernel
theorem d2_1 : decode prog_5_method_1_code 1 = .ok (.invokespecial 3, 3) := by decide +kernel
theorem d2_4 : decode prog_5_method_1_code 4 = .ok (.aload_n 0, 1) := by decide +kernel
theorem d2_5 : decode prog_5_method_1_code 5 = .ok (.aload_n 1, 1) := by decide +kernel
theorem d2_6 : decode prog_5_method_1_code 6 = .ok (.putfield 9, 3) := by decide +kernel
theorem d2_9 : decode prog_5_method_1_code 9 = .ok (.return_, 1) := by decide +kernel
theorem d4_0 : decode prog_5_method_12_code 0 = .ok (.aload_n 0, 1) := by decide +kernel
theorem d4_1 : decode prog_5_method_12_code 1 = .ok (.getfield 9, 3) := by decide +kernel
theorem d4_4 : decode prog_5_method_12_code 4 = .ok (.invokevirtual 67, 3) := by decide +kernel
theorem d4_7 : decode prog_5_method_12_code 7 = .ok (.checkcast 68, 3) := by decide +kernel
theorem d4_10 : decode prog_5_method_12_code 10 = .ok (.astore 5, 2) := by decide +kernel
theorem d4_12 : decode prog_5_method_12_code 12 = .ok (.aload 5, 2) := by decide +kernel
theorem d4_14 : decode prog_5_method_12_code 14 = .ok (.iload_n 1, 1) := by decide +kernel
theorem d4_15 : decode prog_5_method_12_code 15 = .ok (.aload 5, 2) := by decide +kernel
theorem d4_17 : decode prog_5_method_12_code 17 = .ok (.iload_n 1, 1) := by decide +kernel
theorem d4_18 : decode prog_5_method_12_code 18 = .ok (.laload, 1) := by decide +kernel
theorem d4_19 : decode prog_5_method_12_code 19 = .ok (.lload_n 3, 1) := by decide +kernel
theorem d4_20 : decode prog_5_method_12_code 20 = .ok (.invokestatic 64, 3) := by decide +kernel
theorem d4_23 : decode prog_5_method_12_code 23 = .ok (.lastore, 1) := by decide +kernel
theorem d4_24 : decode prog_5_method_12_code 24 = .ok (.aload 5, 2) := by decide +kernel
theorem d4_26 : decode prog_5_method_12_code 26 = .ok (.iload_n 2, 1) := by decide +kernel
theorem d4_27 : decode prog_5_method_12_code 27 = .ok (.aload 5, 2) := by decide +kernel
theorem d4_29 : decode prog_5_method_12_code 29 = .ok (.iload_n 2, 1) := by decide +kernel
theorem d4_30 : decode prog_5_method_12_code 30 = .ok (.laload, 1) := by decide +kernel
theorem d4_31 : decode prog_5_method_12_code 31 = .ok (.lload_n 3, 1) := by decide +kernel
theorem d4_32 : decode prog_5_method_12_code 32 = .ok (.invokestatic 58, 3) := by decide +kernel
theorem d4_35 : decode prog_5_method_12_code 35 = .ok (.lastore, 1) := by decide +kernel
theorem d4_36 : decode prog_5_method_12_code 36 = .ok (.new 10, 3) := by decide +kernel
theorem d4_39 : decode prog_5_method_12_code 39 = .ok (.dup, 1) := by decide +kernel
theorem d4_40 : decode prog_5_method_12_code 40 = .ok (.aload 5, 2) := by decide +kernel
theorem d4_42 : decode prog_5_method_12_code 42 = .ok (.invokespecial 31, 3) := by decide +kernel
theorem d4_45 : decode prog_5_method_12_code 45 = .ok (.areturn, 1) := by decide +kernel
theorem d5_0 : decode jdk_29_method_27_code 0 = .ok (.lload_n 0, 1) := by decide +kernel
theorem d5_1 : decode jdk_29_method_27_code 1 = .ok (.lload_n 2, 1) := by decide +kernel
theorem d5_2 : decode jdk_29_method_27_code 2 = .ok (.lsub, 1) := by decide +kernel
theorem d5_3 : decode jdk_29_method_27_code 3 = .ok (.lstore 4, 2) := by decide +kernel
theorem d5_5 : decode jdk_29_method_27_code 5 = .ok (.lload_n 0, 1) := by decide +kernel
theorem d5_6 : decode jdk_29_method_27_code 6 = .ok (.lload_n 2, 1) := by decide +kernel
theorem d5_7 : decode jdk_29_method_27_code 7 = .ok (.lxor, 1) := by decide +kernel
theorem d5_8 : decode jdk_29_method_27_code 8 = .ok (.lload_n 0, 1) := by decide +kernel
theorem d5_9 : decode jdk_29_method_27_code 9 = .ok (.lload 4, 2) := by decide +kernel
theorem d5_11 : decode jdk_29_method_27_code 11 = .ok (.lxor, 1) := by decide +kernel
theorem d5_12 : decode jdk_29_method_27_code 12 = .ok (.land, 1) := by decide +kernel
theorem d5_13 : decode jdk_29_method_27_code 13 = .ok (.lconst 0, 1) := by decide +kernel
theorem d5_14 : decode jdk_29_method_27_code 14 = .ok (.lcmp, 1) := by decide +kernel
theorem d5_15 : decode jdk_29_method_27_code 15 = .ok (.ifCond .ge 13, 3) := by decide +kernel
theorem d5_28 : decode jdk_29_method_27_code 28 = .ok (.lload 4, 2) := by decide +kernel
theorem d5_30 : decode jdk_29_method_27_code 30 = .ok (.lreturn, 1) := by decide +kernel
theorem d6_0 : decode jdk_29_method_25_code 0 = .ok (.lload_n 0, 1) := by decide +kernel
theorem d6_1 : decode jdk_29_method_25_code 1 = .ok (.lload_n 2, 1) := by decide +kernel
theorem d6_2 : decode jdk_29_method_25_code 2 = .ok (.ladd, 1) := by decide +kernel
theorem d6_3 : decode jdk_29_method_25_code 3 = .ok (.lstore 4, 2) := by decide +kernel
theorem d6_5 : decode jdk_29_method_25_code 5 = .ok (.lload_n 0, 1) := by decide +kernel
theorem d6_6 : decode jdk_29_method_25_code 6 = .ok (.lload 4, 2) := by decide +kernel
theorem d6_8 : decode jdk_29_method_25_code 8 = .ok (.lxor, 1) := by decide +kernel
theorem d6_9 : decode jdk_29_method_25_code 9 = .ok (.lload_n 2, 1) := by decide +kernel
theorem d6_10 : decode jdk_29_method_25_code 10 = .ok (.lload 4, 2) := by decide +kernel
theorem d6_12 : decode jdk_29_method_25_code 12 = .ok (.lxor, 1) := by decide +kernel
theorem d6_13 : decode jdk_29_method_25_code 13 = .ok (.land, 1) := by decide +kernel
theorem d6_14 : decode jdk_29_method_25_code 14 = .ok (.lconst 0, 1) := by decide +kernel
theorem d6_15 : decode jdk_29_method_25_code 15 = .ok (.lcmp, 1) := by decide +kernel
theorem d6_16 : decode jdk_29_method_25_code 16 = .ok (.ifCond .ge 13, 3) := by decide +kernel
theorem d6_29 : decode jdk_29_method_25_code 29 = .ok (.lload 4, 2) := by decide +kernel
theorem d6_31 : decode jdk_29_method_25_code 31 = .ok (.lreturn, 1) := by decide +kernel
theorem d7_0 : decode prog_5_method_8_code 0 = .ok (.new 46, 3) := by decide +kernel
theorem d7_3 : decode prog_5_method_8_code 3 = .ok (.dup, 1) := by decide +kernel
theorem d7_4 : decode prog_5_method_8_code 4 = .ok (.aload_n 0, 1) := by decide +kernel
theorem d7_5 : decode prog_5_method_8_code 5 = .ok (.getfield 9, 3) := by decide +kernel
theorem d7_8 : decode prog_5_method_8_code 8 = .ok (.arraylength, 1) := by decide +kernel
theorem d7_9 : decode prog_5_method_8_code 9 = .ok (.invokespecial 48, 3) := by decide +kernel
theorem d7_12 : decode prog_5_method_8_code 12 = .ok (.astore_n 1, 1) := by decide +kernel
theorem d7_13 : decode prog_5_method_8_code 13 = .ok (.iconst 0, 1) := by decide +kernel
theorem d7_14 : decode prog_5_method_8_code 14 = .ok (.istore_n 2, 1) := by decide +kernel
theorem d7_15 : decode prog_5_method_8_code 15 = .ok (.iload_n 2, 1) := by decide +kernel
theorem d7_16 : decode prog_5_method_8_code 16 = .ok (.aload_n 0, 1) := by decide +kernel
theorem d7_17 : decode prog_5_method_8_code 17 = .ok (.getfield 9, 3) := by decide +kernel
theorem d7_20 : decode prog_5_method_8_code 20 = .ok (.arraylength, 1) := by decide +kernel
theorem d7_21 : decode prog_5_method_8_code 21 = .ok (.if_icmp .ge 21, 3) := by decide +kernel
theorem d7_24 : decode prog_5_method_8_code 24 = .ok (.aload_n 1, 1) := by decide +kernel
theorem d7_25 : decode prog_5_method_8_code 25 = .ok (.aload_n 0, 1) := by decide +kernel
theorem d7_26 : decode prog_5_method_8_code 26 = .ok (.iload_n 2, 1) := by decide +kernel
theorem d7_27 : decode prog_5_method_8_code 27 = .ok (.invokevirtual 51, 3) := by decide +kernel
theorem d7_30 : decode prog_5_method_8_code 30 = .ok (.invokeinterface 54 2, 5) := by decide +kernel
theorem d7_35 : decode prog_5_method_8_code 35 = .ok (.pop, 1) := by decide +kernel
theorem d7_36 : decode prog_5_method_8_code 36 = .ok (.iinc 2 1, 3) := by decide +kernel
theorem d7_39 : decode prog_5_method_8_code 39 = .ok (.goto (-24), 3) := by decide +kernel
theorem d7_42 : decode prog_5_method_8_code 42 = .ok (.aload_n 1, 1) := by decide +kernel
theorem d7_43 : decode prog_5_method_8_code 43 = .ok (.areturn, 1) := by decide +kernel
theorem d8_0 : decode jdk_38_method_1_code 0 = .ok (.aload_n 0, 1) := by decide +kernel
theorem d8_1 : decode jdk_38_method_1_code 1 = .ok (.invokespecial 1, 3) := by decide +kernel
theorem d8_4 : decode jdk_38_method_1_code 4 = .ok (.iload_n 1, 1) := by decide +kernel
theorem d8_5 : decode jdk_38_method_1_code 5 = .ok (.ifCond .le 14, 3) := by decide +kernel
theorem d8_8 : decode jdk_38_method_1_code 8 = .ok (.aload_n 0, 1) := by decide +kernel
theorem d8_9 : decode jdk_38_method_1_code 9 = .ok (.iload_n 1, 1) := by decide +kernel
theorem d8_10 : decode jdk_38_method_1_code 10 = .ok (.anewarray 7, 3) := by decide +kernel
theorem d8_13 : decode jdk_38_method_1_code 13 = .ok (.putfield 9, 3) := by decide +kernel
theorem d8_16 : decode jdk_38_method_1_code 16 = .ok (.goto 44, 3) := by decide +kernel
theorem d8_19 : decode jdk_38_method_1_code 19 = .ok (.iload_n 1, 1) := by decide +kernel
theorem d8_20 : decode jdk_38_method_1_code 20 = .ok (.ifCond .ne 13, 3) := by decide +kernel
theorem d8_23 : decode jdk_38_method_1_code 23 = .ok (.aload_n 0, 1) := by decide +kernel
theorem d8_24 : decode jdk_38_method_1_code 24 = .ok (.getstatic 15, 3) := by decide +kernel
theorem d8_27 : decode jdk_38_method_1_code 27 = .ok (.putfield 9, 3) := by decide +kernel
theorem d8_30 : decode jdk_38_method_1_code 30 = .ok (.goto 30, 3) := by decide +kernel
theorem d8_60 : decode jdk_38_method_1_code 60 = .ok (.return_, 1) := by decide +kernel
theorem d9_0 : decode jdk_39_method_1_code 0 = .ok (.aload_n 0, 1) := by decide +kernel
theorem d9_1 : decode jdk_39_method_1_code 1 = .ok (.invokespecial 1, 3) := by decide +kernel
theorem d9_4 : decode jdk_39_method_1_code 4 = .ok (.aload_n 0, 1) := by decide +kernel
theorem d9_5 : decode jdk_39_method_1_code 5 = .ok (.iconst 0, 1) := by decide +kernel
theorem d9_6 : decode jdk_39_method_1_code 6 = .ok (.putfield 7, 3) := by decide +kernel
theorem d9_9 : decode jdk_39_method_1_code 9 = .ok (.return_, 1) := by decide +kernel
theorem d10_0 : decode jdk_22_method_1_code 0 = .ok (.aload_n 0, 1) := by decide +kernel
theorem d10_1 : decode jdk_22_method_1_code 1 = .ok (.invokespecial 1, 3) := by decide +kernel
theorem d10_4 : decode jdk_22_method_1_code 4 = .ok (.return_, 1) := by decide +kernel
theorem d11_0 : decode prog_5_method_7_code 0 = .ok (.aload_n 0, 1) := by decide +kernel
theorem d11_1 : decode prog_5_method_7_code 1 = .ok (.getfield 9, 3) := by decide +kernel
theorem d11_4 : decode prog_5_method_7_code 4 = .ok (.iload_n 1, 1) := by decide +kernel
theorem d11_5 : decode prog_5_method_7_code 5 = .ok (.laload, 1) := by decide +kernel
theorem d11_6 : decode prog_5_method_7_code 6 = .ok (.iconst 2, 1) := by decide +kernel
theorem d11_7 : decode prog_5_method_7_code 7 = .ok (.invokestatic 42, 3) := by decide +kernel
theorem d11_10 : decode prog_5_method_7_code 10 = .ok (.areturn, 1) := by decide +kernel
theorem d12_0 : decode jdk_17_method_20_code 0 = .ok (.iload_n 2, 1) := by decide +kernel
theorem d12_1 : decode jdk_17_method_20_code 1 = .ok (.ifCond .ne 8, 3) := by decide +kernel
theorem d12_9 : decode jdk_17_method_20_code 9 = .ok (.lload_n 0, 1) := by decide +kernel
theorem d12_10 : decode jdk_17_method_20_code 10 = .ok (.lconst 0, 1) := by decide +kernel
theorem d12_11 : decode jdk_17_method_20_code 11 = .ok (.lcmp, 1) := by decide +kernel
theorem d12_12 : decode jdk_17_method_20_code 12 = .ok (.ifCond .ne 8, 3) := by decide +kernel
theorem d12_15 : decode jdk_17_method_20_code 15 = .ok (.iload_n 2, 1) := by decide +kernel
theorem d12_16 : decode jdk_17_method_20_code 16 = .ok (.invokestatic 239, 3) := by decide +kernel
theorem d12_19 : decode jdk_17_method_20_code 19 = .ok (.areturn, 1) := by decide +kernel
theorem d12_20 : decode jdk_17_method_20_code 20 = .ok (.new 3, 3) := by decide +kernel
theorem d12_23 : decode jdk_17_method_20_code 23 = .ok (.dup, 1) := by decide +kernel
theorem d12_24 : decode jdk_17_method_20_code 24 = .ok (.lload_n 0, 1) := by decide +kernel
theorem d12_25 : decode jdk_17_method_20_code 25 = .ok (.ldc2_w 125, 3) := by decide +kernel
theorem d12_28 : decode jdk_17_method_20_code 28 = .ok (.lcmp, 1) := by decide +kernel
theorem d12_29 : decode jdk_17_method_20_code 29 = .ok (.ifCond .ne 9, 3) := by decide +kernel
theorem d12_38 : decode jdk_17_method_20_code 38 = .ok (.aconst_null, 1) := by decide +kernel
theorem d12_39 : decode jdk_17_method_20_code 39 = .ok (.lload_n 0, 1) := by decide +kernel
theorem d12_40 : decode jdk_17_method_20_code 40 = .ok (.iload_n 2, 1) := by decide +kernel
theorem d12_41 : decode jdk_17_method_20_code 41 = .ok (.iconst 0, 1) := by decide +kernel
theorem d12_42 : decode jdk_17_method_20_code 42 = .ok (.invokespecial 243, 3) := by decide +kernel
theorem d12_45 : decode jdk_17_method_20_code 45 = .ok (.areturn, 1) := by decide +kernel
theorem d13_0 : decode jdk_17_method_1_code 0 = .ok (.aload_n 0, 1) := by decide +kernel
theorem d13_1 : decode jdk_17_method_1_code 1 = .ok (.invokespecial 11, 3) := by decide +kernel
theorem d13_4 : decode jdk_17_method_1_code 4 = .ok (.aload_n 0, 1) := by decide +kernel
theorem d13_5 : decode jdk_17_method_1_code 5 = .ok (.iload 4, 2) := by decide +kernel
theorem d13_7 : decode jdk_17_method_1_code 7 = .ok (.putfield 17, 3) := by decide +kernel
theorem d13_10 : decode jdk_17_method_1_code 10 = .ok (.aload_n 0, 1) := by decide +kernel
theorem d13_11 : decode jdk_17_method_1_code 11 = .ok (.iload 5, 2) := by decide +kernel
theorem d13_13 : decode jdk_17_method_1_code 13 = .ok (.putfield 21, 3) := by decide +kernel
theorem d13_16 : decode jdk_17_method_1_code 16 = .ok (.aload_n 0, 1) := by decide +kernel
theorem d13_17 : decode jdk_17_method_1_code 17 = .ok (.lload_n 2, 1) := by decide +kernel
theorem d13_18 : decode jdk_17_method_1_code 18 = .ok (.putfield 24, 3) := by decide +kernel
theorem d13_21 : decode jdk_17_method_1_code 21 = .ok (.aload_n 0, 1) := by decide +kernel
theorem d13_22 : decode jdk_17_method_1_code 22 = .ok (.aload_n 1, 1) := by decide +kernel
theorem d13_23 : decode jdk_17_method_1_code 23 = .ok (.putfield 28, 3) := by decide +kernel
theorem d13_26 : decode jdk_17_method_1_code 26 = .ok (.return_, 1) := by decide +kernel
theorem d14_0 : decode jdk_18_method_1_code 0 = .ok (.aload_n 0, 1) := by decide +kernel
theorem d14_1 : decode jdk_18_method_1_code 1 = .ok (.invokespecial 1, 3) := by decide +kernel
theorem d14_4 : decode jdk_18_method_1_code 4 = .ok (.return_, 1) := by decide +kernel
theorem d15_0 : decode jdk_38_method_25_code 0 = .ok (.aload_n 0, 1) := by decide +kernel
theorem d15_1 : decode jdk_38_method_25_code 1 = .ok (.dup, 1) := by decide +kernel
theorem d15_2 : decode jdk_38_method_25_code 2 = .ok (.getfield 63, 3) := by decide +kernel
theorem d15_5 : decode jdk_38_method_25_code 5 = .ok (.iconst 1, 1) := by decide +kernel
theorem d15_6 : decode jdk_38_method_25_code 6 = .ok (.iadd, 1) := by decide +kernel
theorem d15_7 : decode jdk_38_method_25_code 7 = .ok (.putfield 63, 3) := by decide +kernel
theorem d15_10 : decode jdk_38_method_25_code 10 = .ok (.aload_n 0, 1) := by decide +kernel
theorem d15_11 : decode jdk_38_method_25_code 11 = .ok (.aload_n 1, 1) := by decide +kernel
theorem d15_12 : decode jdk_38_method_25_code 12 = .ok (.aload_n 0, 1) := by decide +kernel
theorem d15_13 : decode jdk_38_method_25_code 13 = .ok (.getfield 9, 3) := by decide +kernel
theorem d15_16 : decode jdk_38_method_25_code 16 = .ok (.aload_n 0, 1) := by decide +kernel
theorem d15_17 : decode jdk_38_method_25_code 17 = .ok (.getfield 48, 3) := by decide +kernel
theorem d15_20 : decode jdk_38_method_25_code 20 = .ok (.invokevirtual 131, 3) := by decide +kernel
theorem d15_23 : decode jdk_38_method_25_code 23 = .ok (.iconst 1, 1) := by decide +kernel
theorem d15_24 : decode jdk_38_method_25_code 24 = .ok (.ireturn, 1) := by decide +kernel
theorem d16_0 : decode jdk_38_method_24_code 0 = .ok (.iload_n 3, 1) := by decide +kernel
theorem d16_1 : decode jdk_38_method_24_code 1 = .ok (.aload_n 2, 1) := by decide +kernel
theorem d16_2 : decode jdk_38_method_24_code 2 = .ok (.arraylength, 1) := by decide +kernel
theorem d16_3 : decode jdk_38_method_24_code 3 = .ok (.if_icmp .ne 8, 3) := by decide +kernel
theorem d16_11 : decode jdk_38_method_24_code 11 = .ok (.aload_n 2, 1) := by decide +kernel
theorem d16_12 : decode jdk_38_method_24_code 12 = .ok (.iload_n 3, 1) := by decide +kernel
theorem d16_13 : decode jdk_38_method_24_code 13 = .ok (.aload_n 1, 1) := by decide +kernel
theorem d16_14 : decode jdk_38_method_24_code 14 = .ok (.aastore, 1) := by decide +kernel
theorem d16_15 : decode jdk_38_method_24_code 15 = .ok (.aload_n 0, 1) := by decide +kernel
theorem d16_16 : decode jdk_38_method_24_code 16 = .ok (.iload_n 3, 1) := by decide +kernel
theorem d16_17 : decode jdk_38_method_24_code 17 = .ok (.iconst 1, 1) := by decide +kernel
theorem d16_18 : decode jdk_38_method_24_code 18 = .ok (.iadd, 1) := by decide +kernel
theorem d16_19 : decode jdk_38_method_24_code 19 = .ok (.putfield 48, 3) := by decide +kernel
theorem d16_22 : decode jdk_38_method_24_code 22 = .ok (.return_, 1) := by decide +kernel
theorem d17_0 : decode jdk_17_method_24_code 0 = .ok (.iload_n 0, 1) := by decide +kernel
theorem d17_1 : decode jdk_17_method_24_code 1 = .ok (.ifCond .lt 17, 3) := by decide +kernel
theorem d17_4 : decode jdk_17_method_24_code 4 = .ok (.iload_n 0, 1) := by decide +kernel
theorem d17_5 : decode jdk_17_method_24_code 5 = .ok (.getstatic 250, 3) := by decide +kernel
theorem d17_8 : decode jdk_17_method_24_code 8 = .ok (.arraylength, 1) := by decide +kernel
theorem d17_9 : decode jdk_17_method_24_code 9 = .ok (.if_icmp .ge 9, 3) := by decide +kernel
theorem d17_12 : decode jdk_17_method_24_code 12 = .ok (.getstatic 250, 3) := by decide +kernel
theorem d17_15 : decode jdk_17_method_24_code 15 = .ok (.iload_n 0, 1) := by decide +kernel
theorem d17_16 : decode jdk_17_method_24_code 16 = .ok (.aaload, 1) := by decide +kernel
theorem d17_17 : decode jdk_17_method_24_code 17 = .ok (.areturn, 1) := by decide +kernel
theorem d18_0 : decode prog_5_method_2_code 0 = .ok (.aload_n 0, 1) := by decide +kernel
theorem d18_1 : decode prog_5_method_2_code 1 = .ok (.invokeinterface 15 1, 5) := by decide +kernel
theorem d18_6 : decode prog_5_method_2_code 6 = .ok (.newarray .long, 2) := by decide +kernel
theorem d18_8 : decode prog_5_method_2_code 8 = .ok (.astore_n 1, 1) := by decide +kernel
theorem d18_9 : decode prog_5_method_2_code 9 = .ok (.iconst 0, 1) := by decide +kernel
theorem d18_10 : decode prog_5_method_2_code 10 = .ok (.istore_n 2, 1) := by decide +kernel
theorem d18_11 : decode prog_5_method_2_code 11 = .ok (.iload_n 2, 1) := by decide +kernel
theorem d18_12 : decode prog_5_method_2_code 12 = .ok (.aload_n 1, 1) := by decide +kernel
theorem d18_13 : decode prog_5_method_2_code 13 = .ok (.arraylength, 1) := by decide +kernel
theorem d18_14 : decode prog_5_method_2_code 14 = .ok (.if_icmp .ge 25, 3) := by decide +kernel
theorem d18_17 : decode prog_5_method_2_code 17 = .ok (.aload_n 1, 1) := by decide +kernel
theorem d18_18 : decode prog_5_method_2_code 18 = .ok (.iload_n 2, 1) := by decide +kernel
theorem d18_19 : decode prog_5_method_2_code 19 = .ok (.aload_n 0, 1) := by decide +kernel
theorem d18_20 : decode prog_5_method_2_code 20 = .ok (.iload_n 2, 1) := by decide +kernel
theorem d18_21 : decode prog_5_method_2_code 21 = .ok (.invokeinterface 21 2, 5) := by decide +kernel
theorem d18_26 : decode prog_5_method_2_code 26 = .ok (.checkcast 25, 3) := by decide +kernel
theorem d18_29 : decode prog_5_method_2_code 29 = .ok (.invokestatic 27, 3) := by decide +kernel
theorem d18_32 : decode prog_5_method_2_code 32 = .ok (.lastore, 1) := by decide +kernel
theorem d18_33 : decode prog_5_method_2_code 33 = .ok (.iinc 2 1, 3) := by decide +kernel
theorem d18_36 : decode prog_5_method_2_code 36 = .ok (.goto (-25), 3) := by decide +kernel
theorem d18_39 : decode prog_5_method_2_code 39 = .ok (.new 10, 3) := by decide +kernel
theorem d18_42 : decode prog_5_method_2_code 42 = .ok (.dup, 1) := by decide +kernel
theorem d18_43 : decode prog_5_method_2_code 43 = .ok (.aload_n 1, 1) := by decide +kernel
theorem d18_44 : decode prog_5_method_2_code 44 = .ok (.invokespecial 31, 3) := by decide +kernel
theorem d18_47 : decode prog_5_method_2_code 47 = .ok (.areturn, 1) := by decide +kernel
theorem d19_0 : decode jdk_38_method_8_code 0 = .ok (.aload_n 0, 1) := by decide +kernel
theorem d19_1 : decode jdk_38_method_8_code 1 = .ok (.getfield 48, 3) := by decide +kernel
theorem d19_4 : decode jdk_38_method_8_code 4 = .ok (.ireturn, 1) := by decide +kernel
theorem d20_0 : decode jdk_38_method_20_code 0 = .ok (.iload_n 1, 1) := by decide +kernel
theorem d20_1 : decode jdk_38_method_20_code 1 = .ok (.aload_n 0, 1) := by decide +kernel
theorem d20_2 : decode jdk_38_method_20_code 2 = .ok (.getfield 48, 3) := by decide +kernel
theorem d20_5 : decode jdk_38_method_20_code 5 = .ok (.invokestatic 118, 3) := by decide +kernel
theorem d20_8 : decode jdk_38_method_20_code 8 = .ok (.pop, 1) := by decide +kernel
theorem d20_9 : decode jdk_38_method_20_code 9 = .ok (.aload_n 0, 1) := by decide +kernel
theorem d20_10 : decode jdk_38_method_20_code 10 = .ok (.iload_n 1, 1) := by decide +kernel
theorem d20_11 : decode jdk_38_method_20_code 11 = .ok (.invokevirtual 123, 3) := by decide +kernel
theorem d20_14 : decode jdk_38_method_20_code 14 = .ok (.areturn, 1) := by decide +kernel
theorem d21_0 : decode jdk_31_method_17_code 0 = .ok (.iload_n 0, 1) := by decide +kernel
theorem d21_1 : decode jdk_31_method_17_code 1 = .ok (.iload_n 1, 1) := by decide +kernel
theorem d21_2 : decode jdk_31_method_17_code 2 = .ok (.aconst_null, 1) := by decide +kernel
theorem d21_3 : decode jdk_31_method_17_code 3 = .ok (.invokestatic 105, 3) := by decide +kernel
theorem d21_6 : decode jdk_31_method_17_code 6 = .ok (.ireturn, 1) := by decide +kernel
theorem d22_0 : decode jdk_41_method_11_code 0 = .ok (.iload_n 0, 1) := by decide +kernel
theorem d22_1 : decode jdk_41_method_11_code 1 = .ok (.ifCond .lt 8, 3) := by decide +kernel
theorem d22_4 : decode jdk_41_method_11_code 4 = .ok (.iload_n 0, 1) := by decide +kernel
theorem d22_5 : decode jdk_41_method_11_code 5 = .ok (.iload_n 1, 1) := by decide +kernel
theorem d22_6 : decode jdk_41_method_11_code 6 = .ok (.if_icmp .lt 10, 3) := by decide +kernel
theorem d22_16 : decode jdk_41_method_11_code 16 = .ok (.iload_n 0, 1) := by decide +kernel
theorem d22_17 : decode jdk_41_method_11_code 17 = .ok (.ireturn, 1) := by decide +kernel
theorem d23_0 : decode jdk_38_method_18_code 0 = .ok (.aload_n 0, 1) := by decide +kernel
theorem d23_1 : decode jdk_38_method_18_code 1 = .ok (.getfield 9, 3) := by decide +kernel
theorem d23_4 : decode jdk_38_method_18_code 4 = .ok (.iload_n 1, 1) := by decide +kernel
theorem d23_5 : decode jdk_38_method_18_code 5 = .ok (.aaload, 1) := by decide +kernel
theorem d23_6 : decode jdk_38_method_18_code 6 = .ok (.areturn, 1) := by decide +kernel
theorem d24_0 : decode prog_5_method_4_code 0 = .ok (.aload_n 0, 1) := by decide +kernel
theorem d24_1 : decode prog_5_method_4_code 1 = .ok (.iconst 2, 1) := by decide +kernel
theorem d24_2 : decode prog_5_method_4_code 2 = .ok (.invokevirtual 34, 3) := by decide +kernel
theorem d24_5 : decode prog_5_method_4_code 5 = .ok (.invokevirtual 38, 3) := by decide +kernel
theorem d24_8 : decode prog_5_method_4_code 8 = .ok (.lreturn, 1) := by decide +kernel
theorem d25_0 : decode jdk_17_method_67_code 0 = .ok (.iload_n 1, 1) := by decide +kernel
theorem d25_1 : decode jdk_17_method_67_code 1 = .ok (.ifCond .ne 12, 3) := by decide +kernel
theorem d25_13 : decode jdk_17_method_67_code 13 = .ok (.aload_n 0, 1) := by decide +kernel
theorem d25_14 : decode jdk_17_method_67_code 14 = .ok (.aload_n 0, 1) := by decide +kernel
theorem d25_15 : decode jdk_17_method_67_code 15 = .ok (.getfield 17, 3) := by decide +kernel
theorem d25_18 : decode jdk_17_method_67_code 18 = .ok (.i2l, 1) := by decide +kernel
theorem d25_19 : decode jdk_17_method_67_code 19 = .ok (.iload_n 1, 1) := by decide +kernel
theorem d25_20 : decode jdk_17_method_67_code 20 = .ok (.i2l, 1) := by decide +kernel
theorem d25_21 : decode jdk_17_method_67_code 21 = .ok (.lsub, 1) := by decide +kernel
theorem d25_22 : decode jdk_17_method_67_code 22 = .ok (.invokevirtual 325, 3) := by decide +kernel
theorem d25_25 : decode jdk_17_method_67_code 25 = .ok (.istore_n 2, 1) := by decide +kernel
theorem d25_26 : decode jdk_17_method_67_code 26 = .ok (.new 3, 3) := by decide +kernel
theorem d25_29 : decode jdk_17_method_67_code 29 = .ok (.dup, 1) := by decide +kernel
theorem d25_30 : decode jdk_17_method_67_code 30 = .ok (.aload_n 0, 1) := by decide +kernel
theorem d25_31 : decode jdk_17_method_67_code 31 = .ok (.getfield 28, 3) := by decide +kernel
theorem d25_34 : decode jdk_17_method_67_code 34 = .ok (.aload_n 0, 1) := by decide +kernel
theorem d25_35 : decode jdk_17_method_67_code 35 = .ok (.getfield 24, 3) := by decide +kernel
theorem d25_38 : decode jdk_17_method_67_code 38 = .ok (.iload_n 2, 1) := by decide +kernel
theorem d25_39 : decode jdk_17_method_67_code 39 = .ok (.iconst 0, 1) := by decide +kernel
theorem d25_40 : decode jdk_17_method_67_code 40 = .ok (.invokespecial 243, 3) := by decide +kernel
theorem d25_43 : decode jdk_17_method_67_code 43 = .ok (.astore_n 3, 1) := by decide +kernel
theorem d25_44 : decode jdk_17_method_67_code 44 = .ok (.aload_n 3, 1) := by decide +kernel
theorem d25_45 : decode jdk_17_method_67_code 45 = .ok (.getfield 17, 3) := by decide +kernel
theorem d25_48 : decode jdk_17_method_67_code 48 = .ok (.ifCond .ge 13, 3) := by decide +kernel
theorem d25_61 : decode jdk_17_method_67_code 61 = .ok (.aload_n 3, 1) := by decide +kernel
theorem d25_62 : decode jdk_17_method_67_code 62 = .ok (.areturn, 1) := by decide +kernel
theorem d26_0 : decode jdk_17_method_106_code 0 = .ok (.lload_n 1, 1) := by decide +kernel
theorem d26_1 : decode jdk_17_method_106_code 1 = .ok (.l2i, 1) := by decide +kernel
theorem d26_2 : decode jdk_17_method_106_code 2 = .ok (.istore_n 3, 1) := by decide +kernel
theorem d26_3 : decode jdk_17_method_106_code 3 = .ok (.iload_n 3, 1) := by decide +kernel
theorem d26_4 : decode jdk_17_method_106_code 4 = .ok (.i2l, 1) := by decide +kernel
theorem d26_5 : decode jdk_17_method_106_code 5 = .ok (.lload_n 1, 1) := by decide +kernel
theorem d26_6 : decode jdk_17_method_106_code 6 = .ok (.lcmp, 1) := by decide +kernel
theorem d26_7 : decode jdk_17_method_106_code 7 = .ok (.ifCond .eq 69, 3) := by decide +kernel
theorem d26_76 : decode jdk_17_method_106_code 76 = .ok (.iload_n 3, 1) := by decide +kernel
theorem d26_77 : decode jdk_17_method_106_code 77 = .ok (.ireturn, 1) := by decide +kernel
theorem d27_0 : decode jdk_17_method_84_code 0 = .ok (.aload_n 0, 1) := by decide +kernel
theorem d27_1 : decode jdk_17_method_84_code 1 = .ok (.getfield 24, 3) := by decide +kernel
theorem d27_4 : decode jdk_17_method_84_code 4 = .ok (.ldc2_w 125, 3) := by decide +kernel
theorem d27_7 : decode jdk_17_method_84_code 7 = .ok (.lcmp, 1) := by decide +kernel
theorem d27_8 : decode jdk_17_method_84_code 8 = .ok (.ifCond .eq 15, 3) := by decide +kernel
theorem d27_11 : decode jdk_17_method_84_code 11 = .ok (.aload_n 0, 1) := by decide +kernel
theorem d27_12 : decode jdk_17_method_84_code 12 = .ok (.getfield 17, 3) := by decide +kernel
theorem d27_15 : decode jdk_17_method_84_code 15 = .ok (.ifCond .ne 8, 3) := by decide +kernel
theorem d27_18 : decode jdk_17_method_84_code 18 = .ok (.aload_n 0, 1) := by decide +kernel
theorem d27_19 : decode jdk_17_method_84_code 19 = .ok (.getfield 24, 3) := by decide +kernel
theorem d27_22 : decode jdk_17_method_84_code 22 = .ok (.lreturn, 1) := by decide +kernel
theorem d28_0 : decode prog_5_method_5_code 0 = .ok (.aload_n 0, 1) := by decide +kernel
theorem d28_1 : decode prog_5_method_5_code 1 = .ok (.getfield 9, 3) := by decide +kernel
theorem d28_4 : decode prog_5_method_5_code 4 = .ok (.arraylength, 1) := by decide +kernel
theorem d28_5 : decode prog_5_method_5_code 5 = .ok (.ireturn, 1) := by decide +kernel
theorem d29_0 : decode prog_5_method_6_code 0 = .ok (.aload_n 0, 1) := by decide +kernel
theorem d29_1 : decode prog_5_method_6_code 1 = .ok (.getfield 9, 3) := by decide +kernel
theorem d29_4 : decode prog_5_method_6_code 4 = .ok (.iload_n 1, 1) := by decide +kernel
theorem d29_5 : decode prog_5_method_6_code 5 = .ok (.laload, 1) := by decide +kernel
theorem d29_6 : decode prog_5_method_6_code 6 = .ok (.lreturn, 1) := by decide +kernel
theorem own_narR {t : FieldType} {w : Value} (ht : t.isReference = true) (h : w.isRef = true) : narrow t w = w := by rcases ref_cases h with rfl | ⟨_, rfl⟩ <;> cases t <;> first | rfl | (cases ht; done)
theorem own_fitsR {t : FieldType} {w : Value} (ht : t.isReference = true) (h : w.isRef = true) : fits t w = true := by rcases ref_cases h with rfl | ⟨_, rfl⟩ <;> cases t <;> first | rfl | (cases ht; done)
theorem own_nin {a b : Addr} (h : a ≠ b) : a ∉ [b] := fun z => h (List.mem_singleton.mp z)
theorem own_nil {a : Addr} : a ∉ ([] : List Addr) := fun z => nomatch z
/-- a BigDecimal in its compact form -/
def BDp (Z : State) (h : Heap) (b : Addr) (x : Int64) (sc : Int32) (iv : Value) : Prop := Exa Z h b "java/math/BigDecimal" ∧ Fld Z h b "java/math/BigDecimal" "intCompact" "J" (.long x) ∧ Fld Z h b "java/math/BigDecimal" "scale" "I" (.int sc) ∧ Fld Z h b "java/math/BigDecimal" "intVal" "Ljava/math/BigInteger;" iv
theorem BDp.ext {Z : State} {h h' : Heap} {b : Addr} {x : Int64} {sc : Int32} {iv : Value} (B : BDp Z h b x sc iv) (E : Ext h h') : BDp Z h' b x sc iv := ⟨B.1.ext E, B.2.1.ext E, B.2.2.1.ext E, B.2.2.2.ext E⟩
theorem BDp.other {Z : State} {h h' : Heap} {a b : Addr} {x : Int64} {sc : Int32} {iv : Value} {sl : Nat} {v : Value} (B : BDp Z h b x sc iv) (W : Wr h h' a sl v) (q : b ≠ a) : BDp Z h' b x sc iv := ⟨B.1.wr W, B.2.1.other W (Or.inl q), B.2.2.1.other W (Or.inl q), B.2.2.2.other W (Or.inl q)⟩
theorem BDp.keep {Z : State} {h h' : Heap} {b : Addr} {x : Int64} {sc : Int32} {iv : Value} {ws : List Addr} (B : BDp Z h b x sc iv) (K : Keep h h' ws) (q : b ∉ ws) : BDp Z h' b x sc iv := ⟨B.1.keep K, B.2.1.keep K q, B.2.2.1.keep K q, B.2.2.2.keep K q⟩
theorem BDp.lt {Z : State} {h : Heap} {b : Addr} {x : Int64} {sc : Int32} {iv : Value} (B : BDp Z h b x sc iv) : b < h.size := B.1.lt
/-- the JDK's own table of scaled zeros, as far as it is read -/
def ZSc (Z : State) (h : Heap) (az z2 : Addr) (cz : Cell) : Prop := Sta Z h "java/math/BigDecimal" "ZERO_SCALED_BY" "[Ljava/math/BigDecimal;" (.ref az) ∧ Arr Z h az cz (.object "java/math/BigDecimal") ∧ cz.slots.size = 16 ∧ cz.slots[2]? = some (.ref z2) ∧ ∃ iv : Value, iv.isRef = true ∧ BDp Z h z2 (0 : Int64) (2 : Int32) iv
theorem ZSc.ext {Z : State} {h h' : Heap} {az z2 : Addr} {cz : Cell} (B : ZSc Z h az z2 cz) (E : Ext h h') : ZSc Z h' az z2 cz := by
  obtain ⟨a, b, c, d, iv, r, z⟩ := B
  exact ⟨a.ext E, b.ext E, c, d, iv, r, z.ext E⟩
theorem own_z0 : (0 : Int64).toInt = 0 := by decide
theorem own_half {b x : Int64} (h : x = (b >>> ((1 : Int32) &&& 0x3f).toInt64)) : -4611686018427387904 ≤ x.toInt ∧ x.toInt < 4611686018427387904 := by
  have a : (b >>> ((1 : Int32) &&& 0x3f).toInt64).toInt = b.toInt / 2 := c_lshr b 1 1 (by decide)
  have r := rng64 b
  rw [h, a]
  omega
theorem own_s0 {x : Int64} (h : -4611686018427387904 ≤ x.toInt ∧ x.toInt < 4611686018427387904) : ((0 : Int64) - x).toInt = - x.toInt := by
  have a := c_lsub 0 x
  have r := rng64 ((0 : Int64) - x)
  rw [own_z0] at a
  omega
theorem own_p0 {x : Int64} : ((0 : Int64) + x).toInt = x.toInt := by
  have a := c_ladd 0 x
  have r := rng64 ((0 : Int64) + x)
  have r' := rng64 x
  rw [own_z0] at a
  omega
theorem own_f1 {x : Int64} (h : -4611686018427387904 ≤ x.toInt ∧ x.toInt < 4611686018427387904) : Jvm.Free.XT.fits64 ((0 : Int64).toInt - x.toInt) := by
  rw [own_z0]
  constructor <;> omega
theorem own_f2 {x : Int64} (h : -4611686018427387904 ≤ x.toInt ∧ x.toInt < 4611686018427387904) : Jvm.Free.XT.fits64 ((0 : Int64).toInt + x.toInt) := by
  rw [own_z0]
  constructor <;> omega
theorem own_f3 {x y : Int64} (h : -4611686018427387904 ≤ x.toInt ∧ x.toInt < 4611686018427387904) (h' : -4611686018427387904 ≤ y.toInt ∧ y.toInt < 4611686018427387904) : Jvm.Free.XT.fits64 (((0 : Int64) - x).toInt + y.toInt) := by
  rw [own_s0 h]
  constructor <;> omega
theorem own_min : (-9223372036854775808 : Int64).toInt = -9223372036854775808 := by decide
theorem own_m0 {x y : Int64} (h : -4611686018427387904 ≤ x.toInt ∧ x.toInt < 4611686018427387904) (h' : -4611686018427387904 ≤ y.toInt ∧ y.toInt < 4611686018427387904) : ¬ ((0 : Int64) - x + y) = (-9223372036854775808 : Int64) := fun z => by
  have a := c_ladd ((0 : Int64) - x) y
  rw [z, own_min, own_s0 h] at a
  omega
theorem own_m1 {x : Int64} (h : -4611686018427387904 ≤ x.toInt ∧ x.toInt < 4611686018427387904) : ¬ ((0 : Int64) + x) = (-9223372036854775808 : Int64) := fun z => by
  have a := own_p0 (x := x)
  rw [z, own_min] at a
  omega
theorem own_m2 {x : Int64} (h : -4611686018427387904 ≤ x.toInt ∧ x.toInt < 4611686018427387904) : ¬ ((0 : Int64) - x) = (-9223372036854775808 : Int64) := fun z => by
  have a := own_s0 h
  rw [z, own_min] at a
  omega
theorem own_e0 (x y : Int64) : ((0 : Int64) - x + y) = (y - x) := by
  apply Int64.toInt_inj.mp
  have a := c_ladd ((0 : Int64) - x) y
  have b := c_lsub 0 x
  have c := c_lsub y x
  have r1 := rng64 ((0 : Int64) - x + y)
  have r2 := rng64 (y - x)
  rw [own_z0] at b
  omega
theorem own_e1 (x y : Int64) : ((0 : Int64) + x) = x := Int64.toInt_inj.mp own_p0
theorem own_e2 (x y : Int64) : ((0 : Int64) - y) = (-y) := by
  apply Int64.toInt_inj.mp
  have b := c_lsub 0 y
  have c := c_lneg y
  have r1 := rng64 ((0 : Int64) - y)
  have r2 := rng64 (-y)
  rw [own_z0] at b
  omega
theorem own_16 {n : Nat} (h1 : n < 2 ^ 31) (h2 : n.toInt32 = (16 : Int32)) : n = 16 := by
  have e := congrArg Int32.toInt h2
  rw [show n.toInt32 = Int32.ofNat n from rfl, Int32.toInt_ofNat_of_lt h1] at e
  have k : (16 : Int32).toInt = 16 := by decide
  omega
theorem own_elat {args : Array Value} {s : State} {t : Term} {a : Addr} {cl : Cell} {ty : FieldType} {j : Int32} {v : Value} (h : (Jvm.Term.elem t (Jvm.Term.int j)).eval args s none [] s = some v) (ht : t.eval args s none [] s = some (.ref a)) (A : Arr s s.heap a cl ty) (hj : ¬ j < 0) : cl.slots[j.toNatClampNeg]? = some v := by
  have ha : s.arrayAt? a = some cl := A.fin (Vm.Alike.refl _)
  rw [elem_f (a := Jvm.Term.int j) ht (Term.int_eval j) ha hj] at h
  exact h
/-! reading the sheet's words of the start -/
theorem own_fldv {args : Array Value} {s : State} {t u : Term} {C f d : String} {a : Addr} {v : Value} (h : (Jvm.Cond.eq (Jvm.Term.field t C f d) u).value args s none s [] = some true) (ht : t.eval args s none [] s = some (.ref a)) (hu : u.eval args s none [] s = some v) : s.fieldOf? a C f d = some v := by
  have e := fld_at (C := C) (n := f) (dd := d) ht
  cases hv : s.fieldOf? a C f d with
  | none => simp [Cond.value, e, hv] at h
  | some w =>
    rw [hv] at e
    cases w <;> cases v <;> simp_all [Cond.value]
theorem own_len {args : Array Value} {s : State} {t : Term} {a : Addr} {cl : Cell} {ty : FieldType} {z : Int32} (h : (Jvm.Cond.eq (Jvm.Term.length t) (Jvm.Term.int z)).value args s none s [] = some true) (ht : t.eval args s none [] s = some (.ref a)) (A : Arr s s.heap a cl ty) : cl.slots.size < 2 ^ 31 ∧ cl.slots.size.toInt32 = z := by
  have ha : s.arrayAt? a = some cl := A.fin (Vm.Alike.refl _)
  by_cases hl : cl.slots.size < 2 ^ 31
  · have e := len_f ht ha hl
    refine ⟨hl, ?_⟩
    have e2 : (Jvm.Term.int z).eval args s none [] s = some (.int z) := rfl
    simp only [Cond.value, e, e2] at h
    simpa using h
  · exfalso
    simp [Cond.value, Term.eval, ht, ha, hl] at h
theorem own_elem {args : Array Value} {s : State} {t u : Term} {a : Addr} {cl : Cell} {ty : FieldType} {j : Int32} {v : Value} (h : (Jvm.Cond.eq (Jvm.Term.elem t (Jvm.Term.int j)) u).value args s none s [] = some true) (ht : t.eval args s none [] s = some (.ref a)) (hu : u.eval args s none [] s = some v) (A : Arr s s.heap a cl ty) (hj : ¬ j < 0) : cl.slots[j.toNatClampNeg]? = some v := by
  have ha : s.arrayAt? a = some cl := A.fin (Vm.Alike.refl _)
  have e := elem_f (a := Jvm.Term.int j) ht (Term.int_eval j) ha hj
  cases hv : cl.slots[j.toNatClampNeg]? with
  | none => simp [Cond.value, e, hv] at h
  | some w =>
    rw [hv] at e
    cases w <;> cases v <;> simp_all [Cond.value]

theorem ef_rmAC (m : MethodId) (x0 : Addr) : entryFrame m #[(.ref x0)] 1 = mkF m 0 #[.val (.ref x0)] [] := by first | (simp [entryFrame, mkF, argsToLocals, Value.category]; done) | rfl
def QrmAC  (h0 : Heap) (n0 : Nat) (v : Option Value) (h : Heap) (L : List Loc) : Prop := v = none ∧ Fr n0 L ∧ h = h0
set_option maxRecDepth 65536 in
set_option maxHeartbeats 40000000 in
theorem rmAC (l : Launch) (Z : State) (a0 : Array Value) (hw : ∀ d ∈ tables_1, d.before a0 Z = true) (ws : List Jvm.Cond) (a1 : Addr) (h0 : Heap) (n0 : Nat) (Z0 : n0 ≤ h0.size)  :
    MetFree l (⟨"java/util/AbstractCollection", "<init>", "()V"⟩ : MethodName) (head1 (Jvm.Cond.code (⟨"java/util/AbstractCollection", "<init>", "()V"⟩ : MethodName) jdk_22_method_1_code 1 none :: ws) ({ frames := 1, cells := 0, slots := 0, locals := 12 } : Room)) (fun a U => a = #[(.ref a1)] ∧ Z.Warmed39 U.vm ∧ U.heap = h0) (fun _ _ _ _ _ => True) (fun _ U o U' => ∃ v L, o = .returned v ∧ QrmAC  h0 n0 v U'.heap L ∧ FrameEnd U o U' L ({ frames := 1, cells := 0, slots := 0, locals := 12 } : Room).cells ({ frames := 1, cells := 0, slots := 0, locals := 12 } : Room).slots) := by
  refine MetFree.of_bodySF (plainFor_of_name pn_0) hisR ?_
  intro p e s m args below meth c s₁ Bd hml0 hP hK
  obtain ⟨rfl, hZ, hh⟩ := hP
  have hx := Bd.exec
  have hlk : meth.locks = false := BodyLoose.notSynchronized Bd
  have hby := Bd.bytes
  have hml : c.maxLocals = 1 := hml0
  have hown : s.vm.findClass "java/util/AbstractCollection" = some m.cls := findClass_of_methodNamed Bd.named
  have hnm := (name_of_methodNamed Bd.named Bd.method).1
  have X0 : Stand p l e ({ frames := 1, cells := 0, slots := 0, locals := 12 } : Room) s m #[(.ref a1)] below meth c s₁ [] 0 0 := Stand.of_body Bd
  have e0 : s₁.heap = h0 := by rw [← hh, Bd.state]; rfl
  have N0 := Fr.nil n0
  have K0 : ∀ t, Steps p.tables e below (s₁.setTop (mkF m 0 #[.val (.ref a1)] [])) t → Steps p.tables e below (s₁.setTop (entryFrame m #[(.ref a1)] 1)) t := fun t k => castTop (ef_rmAC m a1) k
  have KK0 : Keep h0 h0 [] := Keep.refl _ _
  
  have K101 : ∀ t, Steps p.tables e below (s₁.setTop (mkF m 1 #[.val (.ref a1)] [(.ref a1)])) t → Steps p.tables e below (s₁.setTop (entryFrame m #[(.ref a1)] 1)) t := by
    intro t kt
    refine K0 t ?_
    show Steps p.tables e below (s₁.setTop (mkF m 0 #[.val (.ref a1)] [])) _
    refine XS.aloadN X0.here hx rfl (hb hby d10_0) rfl rfl ?_
    exact kt
  obtain ⟨T102, X102, e102, st102⟩ := initO X0 hx hZ hown (hw _ (List.mem_of_getElem? (i := 59) rfl)) (hw _ (List.mem_of_getElem? (i := 11) rfl)) (hw _ (List.mem_of_getElem? (i := 12) rfl)) e0 (g := (mkF m 1 #[.val (.ref a1)] [(.ref a1)])) rfl (by rw [hml]; rfl) rfl (hb hby d10_1) (by decide) (W := 0) (by show 2 * 0 + _ ≤ _; exact Nat.le_of_eq rfl) (by decide)
  have K103 : ∀ t, Steps p.tables e below (T102.setTop (mkF m 4 #[.val (.ref a1)] [])) t → Steps p.tables e below (s₁.setTop (entryFrame m #[(.ref a1)] 1)) t := fun t kt => K101 t (st102 t kt)
  obtain ⟨fs, hr, hrun, hended, hW, hsame⟩ := X102.leave (v := none) (fun _ => rfl) (hlocks := hlk)
  refine ⟨_, _, K103 _ ?_, hrun, hended, _, _, rfl, ?_, ⟨_, rfl⟩, hW, hsame.mono (by decide) (by decide)⟩
  · exact X102.returnOut hx Bd.returns (hb hby d10_4) hr
  · show QrmAC h0 n0 _ T102.heap _
    rw [e102]
    exact ⟨rfl, N0, rfl⟩
theorem ef_rmNI (m : MethodId) (x0 : Addr) : entryFrame m #[(.ref x0)] 1 = mkF m 0 #[.val (.ref x0)] [] := by first | (simp [entryFrame, mkF, argsToLocals, Value.category]; done) | rfl
def QrmNI  (h0 : Heap) (n0 : Nat) (v : Option Value) (h : Heap) (L : List Loc) : Prop := v = none ∧ Fr n0 L ∧ h = h0
set_option maxRecDepth 65536 in
set_option maxHeartbeats 40000000 in
theorem rmNI (l : Launch) (Z : State) (a0 : Array Value) (hw : ∀ d ∈ tables_1, d.before a0 Z = true) (ws : List Jvm.Cond) (a1 : Addr) (h0 : Heap) (n0 : Nat) (Z0 : n0 ≤ h0.size)  :
    MetFree l (⟨"java/lang/Number", "<init>", "()V"⟩ : MethodName) (head1 (Jvm.Cond.code (⟨"java/lang/Number", "<init>", "()V"⟩ : MethodName) jdk_18_method_1_code 1 none :: ws) ({ frames := 1, cells := 0, slots := 0, locals := 12 } : Room)) (fun a U => a = #[(.ref a1)] ∧ Z.Warmed39 U.vm ∧ U.heap = h0) (fun _ _ _ _ _ => True) (fun _ U o U' => ∃ v L, o = .returned v ∧ QrmNI  h0 n0 v U'.heap L ∧ FrameEnd U o U' L ({ frames := 1, cells := 0, slots := 0, locals := 12 } : Room).cells ({ frames := 1, cells := 0, slots := 0, locals := 12 } : Room).slots) := by
  refine MetFree.of_bodySF (plainFor_of_name pn_1) hisR ?_
  intro p e s m args below meth c s₁ Bd hml0 hP hK
  obtain ⟨rfl, hZ, hh⟩ := hP
  have hx := Bd.exec
  have hlk : meth.locks = false := BodyLoose.notSynchronized Bd
  have hby := Bd.bytes
  have hml : c.maxLocals = 1 := hml0
  have hown : s.vm.findClass "java/lang/Number" = some m.cls := findClass_of_methodNamed Bd.named
  have hnm := (name_of_methodNamed Bd.named Bd.method).1
  have X0 : Stand p l e ({ frames := 1, cells := 0, slots := 0, locals := 12 } : Room) s m #[(.ref a1)] below meth c s₁ [] 0 0 := Stand.of_body Bd
  have e0 : s₁.heap = h0 := by rw [← hh, Bd.state]; rfl
  have N0 := Fr.nil n0
  have K0 : ∀ t, Steps p.tables e below (s₁.setTop (mkF m 0 #[.val (.ref a1)] [])) t → Steps p.tables e below (s₁.setTop (entryFrame m #[(.ref a1)] 1)) t := fun t k => castTop (ef_rmNI m a1) k
  have KK0 : Keep h0 h0 [] := Keep.refl _ _
  
  have K101 : ∀ t, Steps p.tables e below (s₁.setTop (mkF m 1 #[.val (.ref a1)] [(.ref a1)])) t → Steps p.tables e below (s₁.setTop (entryFrame m #[(.ref a1)] 1)) t := by
    intro t kt
    refine K0 t ?_
    show Steps p.tables e below (s₁.setTop (mkF m 0 #[.val (.ref a1)] [])) _
    refine XS.aloadN X0.here hx rfl (hb hby d14_0) rfl rfl ?_
    exact kt
  obtain ⟨T102, X102, e102, st102⟩ := initO X0 hx hZ hown (hw _ (List.mem_of_getElem? (i := 88) rfl)) (hw _ (List.mem_of_getElem? (i := 11) rfl)) (hw _ (List.mem_of_getElem? (i := 12) rfl)) e0 (g := (mkF m 1 #[.val (.ref a1)] [(.ref a1)])) rfl (by rw [hml]; rfl) rfl (hb hby d14_1) (by decide) (W := 0) (by show 2 * 0 + _ ≤ _; exact Nat.le_of_eq rfl) (by decide)
  have K103 : ∀ t, Steps p.tables e below (T102.setTop (mkF m 4 #[.val (.ref a1)] [])) t → Steps p.tables e below (s₁.setTop (entryFrame m #[(.ref a1)] 1)) t := fun t kt => K101 t (st102 t kt)
  obtain ⟨fs, hr, hrun, hended, hW, hsame⟩ := X102.leave (v := none) (fun _ => rfl) (hlocks := hlk)
  refine ⟨_, _, K103 _ ?_, hrun, hended, _, _, rfl, ?_, ⟨_, rfl⟩, hW, hsame.mono (by decide) (by decide)⟩
  · exact X102.returnOut hx Bd.returns (hb hby d14_4) hr
  · show QrmNI h0 n0 _ T102.heap _
    rw [e102]
    exact ⟨rfl, N0, rfl⟩
theorem ef_rmCI (m : MethodId) (x0 : Addr) (x1 : Addr) : entryFrame m #[(.ref x0), (.ref x1)] 2 = mkF m 0 #[.val (.ref x0), .val (.ref x1)] [] := by first | (simp [entryFrame, mkF, argsToLocals, Value.category]; done) | rfl
def QrmCI (Z : State) (a1 a2 : Addr) (h0 : Heap) (n0 : Nat) (v : Option Value) (h : Heap) (L : List Loc) : Prop := v = none ∧ Fr n0 L ∧ Keep h0 h [a1] ∧ Fld Z h a1 "com/example/tranchery/tranchery/Cents" "amounts" "[J" (.ref a2)
set_option maxRecDepth 65536 in
set_option maxHeartbeats 40000000 in
theorem rmCI (l : Launch) (Z : State) (a0 : Array Value) (hw : ∀ d ∈ tables_1, d.before a0 Z = true) (ws : List Jvm.Cond) (a1 a2 : Addr) (h0 : Heap) (n0 : Nat) (Z0 : n0 ≤ h0.size) (E1 : Exa Z h0 a1 "com/example/tranchery/tranchery/Cents") (F1 : Fld Z h0 a1 "com/example/tranchery/tranchery/Cents" "amounts" "[J" .null) (g1 : n0 ≤ a1) :
    MetFree l (⟨"com/example/tranchery/tranchery/Cents", "<init>", "([J)V"⟩ : MethodName) (head1 (Jvm.Cond.code (⟨"com/example/tranchery/tranchery/Cents", "<init>", "([J)V"⟩ : MethodName) prog_5_method_1_code 2 none :: ws) ({ frames := 1, cells := 0, slots := 0, locals := 12 } : Room)) (fun a U => a = #[(.ref a1), (.ref a2)] ∧ Z.Warmed39 U.vm ∧ U.heap = h0) (fun _ _ _ _ _ => True) (fun _ U o U' => ∃ v L, o = .returned v ∧ QrmCI Z a1 a2 h0 n0 v U'.heap L ∧ FrameEnd U o U' L ({ frames := 1, cells := 0, slots := 0, locals := 12 } : Room).cells ({ frames := 1, cells := 0, slots := 0, locals := 12 } : Room).slots) := by
  refine MetFree.of_bodySF (plainFor_of_name pn_2) hisR ?_
  intro p e s m args below meth c s₁ Bd hml0 hP hK
  obtain ⟨rfl, hZ, hh⟩ := hP
  have hx := Bd.exec
  have hlk : meth.locks = false := BodyLoose.notSynchronized Bd
  have hby := Bd.bytes
  have hml : c.maxLocals = 2 := hml0
  have hown : s.vm.findClass "com/example/tranchery/tranchery/Cents" = some m.cls := findClass_of_methodNamed Bd.named
  have hnm := (name_of_methodNamed Bd.named Bd.method).1
  have X0 : Stand p l e ({ frames := 1, cells := 0, slots := 0, locals := 12 } : Room) s m #[(.ref a1), (.ref a2)] below meth c s₁ [] 0 0 := Stand.of_body Bd
  have e0 : s₁.heap = h0 := by rw [← hh, Bd.state]; rfl
  have N0 := Fr.nil n0
  have K0 : ∀ t, Steps p.tables e below (s₁.setTop (mkF m 0 #[.val (.ref a1), .val (.ref a2)] [])) t → Steps p.tables e below (s₁.setTop (entryFrame m #[(.ref a1), (.ref a2)] 2)) t := fun t k => castTop (ef_rmCI m a1 a2) k
  have KK0 : Keep h0 h0 [a1] := Keep.refl _ _
  
  have K101 : ∀ t, Steps p.tables e below (s₁.setTop (mkF m 1 #[.val (.ref a1), .val (.ref a2)] [(.ref a1)])) t → Steps p.tables e below (s₁.setTop (entryFrame m #[(.ref a1), (.ref a2)] 2)) t := by
    intro t kt
    refine K0 t ?_
    show Steps p.tables e below (s₁.setTop (mkF m 0 #[.val (.ref a1), .val (.ref a2)] [])) _
    refine XS.aloadN X0.here hx rfl (hb hby d2_0) rfl rfl ?_
    exact kt
  obtain ⟨T102, X102, e102, st102⟩ := initO X0 hx hZ hown (hw _ (List.mem_of_getElem? (i := 10) rfl)) (hw _ (List.mem_of_getElem? (i := 11) rfl)) (hw _ (List.mem_of_getElem? (i := 12) rfl)) e0 (g := (mkF m 1 #[.val (.ref a1), .val (.ref a2)] [(.ref a1)])) rfl (by rw [hml]; rfl) rfl (hb hby d2_1) (by decide) (W := 0) (by show 2 * 0 + _ ≤ _; exact Nat.le_of_eq rfl) (by decide)
  have K103 : ∀ t, Steps p.tables e below (T102.setTop (mkF m 4 #[.val (.ref a1), .val (.ref a2)] [])) t → Steps p.tables e below (s₁.setTop (entryFrame m #[(.ref a1), (.ref a2)] 2)) t := fun t kt => K101 t (st102 t kt)
  have K104 : ∀ t, Steps p.tables e below (T102.setTop (mkF m 6 #[.val (.ref a1), .val (.ref a2)] [(.ref a2), (.ref a1)])) t → Steps p.tables e below (s₁.setTop (entryFrame m #[(.ref a1), (.ref a2)] 2)) t := by
    intro t kt
    refine K103 t ?_
    show Steps p.tables e below (T102.setTop (mkF m 4 #[.val (.ref a1), .val (.ref a2)] [])) _
    refine XS.aloadN X102.here hx rfl (hb hby d2_4) rfl rfl ?_
    show Steps p.tables e below (T102.setTop (mkF m 5 #[.val (.ref a1), .val (.ref a2)] [(.ref a1)])) _
    refine XS.aloadN X102.here hx rfl (hb hby d2_5) rfl rfl ?_
    exact kt
  obtain ⟨T105, h105, X105, e105, W105, st105⟩ := putF X102 hx hZ hown (host := "") (Or.inl (hw _ (List.mem_of_getElem? (i := 13) rfl))) Via.refl e102 F1 E1 (Or.inr ⟨(hw _ (List.mem_of_getElem? (i := 14) rfl)), rfl, hnm⟩) (hw _ (List.mem_of_getElem? (i := 5) rfl)) (ty := (.array .long)) (by decide) rfl rfl (g := (mkF m 6 #[.val (.ref a1), .val (.ref a2)] [(.ref a2), (.ref a1)])) rfl rfl (hb hby d2_6)
  have f106 := Nat.le_trans Z0 (Nat.le_of_eq W105.size.symm)
  have f107 := KK0.wr W105 (Or.inl (List.mem_of_getElem? (i := 0) rfl))
  have f108 := E1.wr W105
  have F105 := F1.same W105
  have N105 := Fr.snoc X105 N0 g1
  have K109 : ∀ t, Steps p.tables e below (T105.setTop (mkF m 9 #[.val (.ref a1), .val (.ref a2)] [])) t → Steps p.tables e below (s₁.setTop (entryFrame m #[(.ref a1), (.ref a2)] 2)) t := fun t kt => K104 t (st105 t kt)
  obtain ⟨fs, hr, hrun, hended, hW, hsame⟩ := X105.leave (v := none) (fun _ => rfl) (hlocks := hlk)
  refine ⟨_, _, K109 _ ?_, hrun, hended, _, _, rfl, ?_, ⟨_, rfl⟩, hW, hsame.mono (by decide) (by decide)⟩
  · exact X105.returnOut hx Bd.returns (hb hby d2_9) hr
  · show QrmCI Z a1 a2 h0 n0 _ T105.heap _
    rw [e105]
    exact ⟨rfl, N105, f107, F105⟩
theorem ef_rmZ0 (m : MethodId) (x0 : Int32) : entryFrame m #[(.int x0)] 1 = mkF m 0 #[.val (.int x0)] [] := by first | (simp [entryFrame, mkF, argsToLocals, Value.category]; done) | rfl
def QrmZ0 (Z : State) (h0 : Heap) (n0 : Nat) (v : Option Value) (h : Heap) (L : List Loc) : Prop := ∃ (b t : Addr) (kk : ClassId), v = some (.ref b) ∧ (Exa Z h b "com/example/tranchery/tranchery/Cents" ∧ Fld Z h b "com/example/tranchery/tranchery/Cents" "amounts" "[J" (.ref t) ∧ Arv Z h t kk .long (0 : Int32) [] (.long (0 : Int64)) ∧ Exa Z h t "[J") ∧ Fr n0 L ∧ Keep h0 h []
set_option maxRecDepth 65536 in
set_option maxHeartbeats 40000000 in
theorem rmZ0 (l : Launch) (Z : State) (a0 : Array Value) (hw : ∀ d ∈ tables_1, d.before a0 Z = true) (ws : List Jvm.Cond)  (h0 : Heap) (n0 : Nat) (Z0 : n0 ≤ h0.size)  :
    MetFree l (⟨"com/example/tranchery/tranchery/Cents", "zeros", "(I)Lcom/example/tranchery/tranchery/Cents;"⟩ : MethodName) (head1 (Jvm.Cond.code (⟨"com/example/tranchery/tranchery/Cents", "zeros", "(I)Lcom/example/tranchery/tranchery/Cents;"⟩ : MethodName) prog_5_method_3_code 1 (some (.object "com/example/tranchery/tranchery/Cents")) :: ws) ({ frames := 2, cells := 2, slots := 1, locals := 26 } : Room)) (fun a U => a = #[(.int (0 : Int32))] ∧ Z.Warmed39 U.vm ∧ U.heap = h0) (fun _ _ _ _ _ => True) (fun _ U o U' => ∃ v L, o = .returned v ∧ QrmZ0 Z h0 n0 v U'.heap L ∧ FrameEnd U o U' L ({ frames := 2, cells := 2, slots := 1, locals := 26 } : Room).cells ({ frames := 2, cells := 2, slots := 1, locals := 26 } : Room).slots) := by
  refine MetFree.of_bodySF (plainFor_of_name pn_2) hisR ?_
  intro p e s m args below meth c s₁ Bd hml0 hP hK
  obtain ⟨rfl, hZ, hh⟩ := hP
  have hx := Bd.exec
  have hlk : meth.locks = false := BodyLoose.notSynchronized Bd
  have hby := Bd.bytes
  have hml : c.maxLocals = 1 := hml0
  have hown : s.vm.findClass "com/example/tranchery/tranchery/Cents" = some m.cls := findClass_of_methodNamed Bd.named
  have hnm := (name_of_methodNamed Bd.named Bd.method).1
  have X0 : Stand p l e ({ frames := 2, cells := 2, slots := 1, locals := 26 } : Room) s m #[(.int (0 : Int32))] below meth c s₁ [] 0 0 := Stand.of_body Bd
  have e0 : s₁.heap = h0 := by rw [← hh, Bd.state]; rfl
  have N0 := Fr.nil n0
  have K0 : ∀ t, Steps p.tables e below (s₁.setTop (mkF m 0 #[.val (.int (0 : Int32))] [])) t → Steps p.tables e below (s₁.setTop (entryFrame m #[(.int (0 : Int32))] 1)) t := fun t k => castTop (ef_rmZ0 m (0 : Int32)) k
  have KK0 : Keep h0 h0 [] := Keep.refl _ _
  
  obtain ⟨T101, h101, X101, e101, E101, A101, D101, U101, st101⟩ := newO X0 hx hZ hown (hw _ (List.mem_of_getElem? (i := 4) rfl)) (hw _ (List.mem_of_getElem? (i := 5) rfl)) (hw _ (List.mem_of_getElem? (i := 2) rfl)) e0 (g := (mkF m 0 #[.val (.int (0 : Int32))] [])) rfl (hb hby d1_0) (by decide) (by decide)
  obtain ⟨b101, g101⟩ : ∃ z, z = h0.size := ⟨_, rfl⟩
  rw [← g101] at A101 D101 U101 st101
  have sz102 : h0.size ≤ b101 := Nat.le_trans KK0.1 (Nat.le_of_eq g101.symm)
  have g_b101 : n0 ≤ b101 := Nat.le_trans Z0 (Nat.le_of_eq g101.symm)
  have f103 := Nat.le_trans Z0 E101.1
  have f104 := KK0.ext E101
  have F105 : Fld Z h101 b101 "com/example/tranchery/tranchery/Cents" "amounts" "[J" .null := D101 (Or.inr (hw _ (List.mem_of_getElem? (i := 14) rfl))) (ty := (.array .long)) (by decide)
  have K106 : ∀ t, Steps p.tables e below (T101.setTop (mkF m 3 #[.val (.int (0 : Int32))] [(.ref b101)])) t → Steps p.tables e below (s₁.setTop (entryFrame m #[(.int (0 : Int32))] 1)) t := fun t kt => K0 t (st101 t kt)
  have K107 : ∀ t, Steps p.tables e below (T101.setTop (mkF m 5 #[.val (.int (0 : Int32))] [(.int (0 : Int32)), (.ref b101), (.ref b101)])) t → Steps p.tables e below (s₁.setTop (entryFrame m #[(.int (0 : Int32))] 1)) t := by
    intro t kt
    refine K106 t ?_
    show Steps p.tables e below (T101.setTop (mkF m 3 #[.val (.int (0 : Int32))] [(.ref b101)])) _
    refine XS.dup X101.here hx rfl (hb hby d1_3) rfl rfl ?_
    show Steps p.tables e below (T101.setTop (mkF m 4 #[.val (.int (0 : Int32))] [(.ref b101), (.ref b101)])) _
    refine XS.iloadN X101.here hx rfl (hb hby d1_4) rfl ?_
    exact kt
  obtain ⟨T108, h108, k108, X108, e108, E108, A108, B108, st108⟩ := newPE X101 hx hZ (hw _ (List.mem_of_getElem? (i := 6) rfl)) e101 (g := (mkF m 5 #[.val (.int (0 : Int32))] [(.int (0 : Int32)), (.ref b101), (.ref b101)])) rfl (hb hby d1_5) rfl (by decide) (cap := 0) (by decide) (by decide) (by decide) (by decide) (ad := "[J") (by decide)
  obtain ⟨b108, g108⟩ : ∃ z, z = h101.size := ⟨_, rfl⟩
  rw [← g108] at A108 B108 st108
  have ne_b101_b108 : b101 ≠ b108 := by rw [g108]; exact Nat.ne_of_lt A101.lt
  have sz109 : h0.size ≤ b108 := Nat.le_trans f104.1 (Nat.le_of_eq g108.symm)
  have g_b108 : n0 ≤ b108 := Nat.le_trans f103 (Nat.le_of_eq g108.symm)
  have f110 := Nat.le_trans f103 E108.1
  have f111 := f104.ext E108
  have f112 := A101.ext E108
  have f113 := F105.ext E108
  have V108 : Arv Z h108 b108 k108 .long (0 : Int32) [] (.long (0 : Int64)) := Arv.new A108 (by decide)
  have K114 : ∀ t, Steps p.tables e below (T108.setTop (mkF m 7 #[.val (.int (0 : Int32))] [(.ref b108), (.ref b101), (.ref b101)])) t → Steps p.tables e below (s₁.setTop (entryFrame m #[(.int (0 : Int32))] 1)) t := fun t kt => K107 t (st108 t kt)
  obtain ⟨_, _, ⟨T115, L115, k115, n115⟩, -, X115, ⟨Lc115, hQ115, l115, y115, z115⟩, st115⟩ := X108.specialBack hx (y := (⟨"com/example/tranchery/tranchery/Cents", "<init>", "([J)V"⟩ : MethodName)) rfl hown (mvT hZ (hw _ (List.mem_of_getElem? (i := 7) rfl))) (mvT hZ (hw _ (List.mem_of_getElem? (i := 8) rfl))) (mvT hZ (hw _ (List.mem_of_getElem? (i := 9) rfl))) (by decide) (backOf (W := 1) (rmCI l Z a0 hw [] b101 b108 h108 n0 f110 f112 f113 g_b101) hZ (hw _ (List.mem_of_getElem? (i := 9) rfl)) (hw _ (List.mem_of_getElem? (i := 2) rfl)) (by decide) (by decide)) (g := (mkF m 7 #[.val (.int (0 : Int32))] [(.ref b108), (.ref b101), (.ref b101)])) rfl (by rw [hml]; rfl) (Steps.refl _) (a := b101) (argsL := [(.ref b108)]) (rest := [(.ref b101)]) (lenOf pd_0 rfl) rfl (by show 2 * 0 + _ ≤ _; exact Nat.le_of_eq rfl) (hb hby d1_7) (fun _ _ => ⟨rfl, e108, (by decide : 2 + 0 ≤ _), (by decide : 1 + 0 ≤ _)⟩)
  dsimp only [Pt.U, Pt.locs, Pt.cells, Pt.slots] at X115 l115 y115 z115 st115 hQ115
  subst l115 y115 z115
  obtain ⟨rfl, Nq115, Kq115, FA115⟩ := hQ115
  have f116 := Nat.le_trans f110 Kq115.1
  have f117 := f111.trans Kq115 (allS (Or.inr sz102) all0)
  have f118 := f112.keep Kq115
  have f119 := V108.keep Kq115 (own_nin (Ne.symm ne_b101_b108))
  have f120 := B108.keep Kq115
  have N115 := Fr.app N0 Nq115
  have K121 : ∀ t, Steps p.tables e below (T115.setTop (mkF m 10 #[.val (.int (0 : Int32))] [(.ref b101)])) t → Steps p.tables e below (s₁.setTop (entryFrame m #[(.int (0 : Int32))] 1)) t := fun t kt => K114 t (st115.trans kt)
  obtain ⟨fs, hr, hrun, hended, hW, hsame⟩ := X115.leave (v := some (.ref b101)) (fun h => by rw [Bd.returns] at h; cases h) (hlocks := hlk)
  refine ⟨_, _, K121 _ ?_, hrun, hended, _, _, rfl, ?_, ⟨_, rfl⟩, hW, hsame.mono (by decide) (by decide)⟩
  · exact retOut X115 hx Bd.returns rfl (Or.inr (Or.inr (Or.inr (Or.inr ⟨rfl, rfl, rfl⟩)))) (hb hby d1_10) hr
  · show QrmZ0 Z h0 n0 _ T115.heap _
    exact ⟨_, _, _, rfl, ⟨f118, FA115, f119, f120⟩, N115, f117⟩
theorem ef_rmZ3 (m : MethodId) (x0 : Int32) : entryFrame m #[(.int x0)] 1 = mkF m 0 #[.val (.int x0)] [] := by first | (simp [entryFrame, mkF, argsToLocals, Value.category]; done) | rfl
def QrmZ3 (Z : State) (h0 : Heap) (n0 : Nat) (v : Option Value) (h : Heap) (L : List Loc) : Prop := ∃ (b t : Addr) (kk : ClassId), v = some (.ref b) ∧ (Exa Z h b "com/example/tranchery/tranchery/Cents" ∧ Fld Z h b "com/example/tranchery/tranchery/Cents" "amounts" "[J" (.ref t) ∧ Arv Z h t kk .long (3 : Int32) [(.long (0 : Int64)), (.long (0 : Int64)), (.long (0 : Int64))] (.long (0 : Int64)) ∧ Exa Z h t "[J") ∧ Fr n0 L ∧ Keep h0 h []
set_option maxRecDepth 65536 in
set_option maxHeartbeats 40000000 in
theorem rmZ3 (l : Launch) (Z : State) (a0 : Array Value) (hw : ∀ d ∈ tables_1, d.before a0 Z = true) (ws : List Jvm.Cond)  (h0 : Heap) (n0 : Nat) (Z0 : n0 ≤ h0.size)  :
    MetFree l (⟨"com/example/tranchery/tranchery/Cents", "zeros", "(I)Lcom/example/tranchery/tranchery/Cents;"⟩ : MethodName) (head1 (Jvm.Cond.code (⟨"com/example/tranchery/tranchery/Cents", "zeros", "(I)Lcom/example/tranchery/tranchery/Cents;"⟩ : MethodName) prog_5_method_3_code 1 (some (.object "com/example/tranchery/tranchery/Cents")) :: ws) ({ frames := 2, cells := 2, slots := 4, locals := 26 } : Room)) (fun a U => a = #[(.int (3 : Int32))] ∧ Z.Warmed39 U.vm ∧ U.heap = h0) (fun _ _ _ _ _ => True) (fun _ U o U' => ∃ v L, o = .returned v ∧ QrmZ3 Z h0 n0 v U'.heap L ∧ FrameEnd U o U' L ({ frames := 2, cells := 2, slots := 4, locals := 26 } : Room).cells ({ frames := 2, cells := 2, slots := 4, locals := 26 } : Room).slots) := by
  refine MetFree.of_bodySF (plainFor_of_name pn_2) hisR ?_
  intro p e s m args below meth c s₁ Bd hml0 hP hK
  obtain ⟨rfl, hZ, hh⟩ := hP
  have hx := Bd.exec
  have hlk : meth.locks = false := BodyLoose.notSynchronized Bd
  have hby := Bd.bytes
  have hml : c.maxLocals = 1 := hml0
  have hown : s.vm.findClass "com/example/tranchery/tranchery/Cents" = some m.cls := findClass_of_methodNamed Bd.named
  have hnm := (name_of_methodNamed Bd.named Bd.method).1
  have X0 : Stand p l e ({ frames := 2, cells := 2, slots := 4, locals := 26 } : Room) s m #[(.int (3 : Int32))] below meth c s₁ [] 0 0 := Stand.of_body Bd
  have e0 : s₁.heap = h0 := by rw [← hh, Bd.state]; rfl
  have N0 := Fr.nil n0
  have K0 : ∀ t, Steps p.tables e below (s₁.setTop (mkF m 0 #[.val (.int (3 : Int32))] [])) t → Steps p.tables e below (s₁.setTop (entryFrame m #[(.int (3 : Int32))] 1)) t := fun t k => castTop (ef_rmZ3 m (3 : Int32)) k
  have KK0 : Keep h0 h0 [] := Keep.refl _ _
  
  obtain ⟨T101, h101, X101, e101, E101, A101, D101, U101, st101⟩ := newO X0 hx hZ hown (hw _ (List.mem_of_getElem? (i := 4) rfl)) (hw _ (List.mem_of_getElem? (i := 5) rfl)) (hw _ (List.mem_of_getElem? (i := 2) rfl)) e0 (g := (mkF m 0 #[.val (.int (3 : Int32))] [])) rfl (hb hby d1_0) (by decide) (by decide)
  obtain ⟨b101, g101⟩ : ∃ z, z = h0.size := ⟨_, rfl⟩
  rw [← g101] at A101 D101 U101 st101
  have sz102 : h0.size ≤ b101 := Nat.le_trans KK0.1 (Nat.le_of_eq g101.symm)
  have g_b101 : n0 ≤ b101 := Nat.le_trans Z0 (Nat.le_of_eq g101.symm)
  have f103 := Nat.le_trans Z0 E101.1
  have f104 := KK0.ext E101
  have F105 : Fld Z h101 b101 "com/example/tranchery/tranchery/Cents" "amounts" "[J" .null := D101 (Or.inr (hw _ (List.mem_of_getElem? (i := 14) rfl))) (ty := (.array .long)) (by decide)
  have K106 : ∀ t, Steps p.tables e below (T101.setTop (mkF m 3 #[.val (.int (3 : Int32))] [(.ref b101)])) t → Steps p.tables e below (s₁.setTop (entryFrame m #[(.int (3 : Int32))] 1)) t := fun t kt => K0 t (st101 t kt)
  have K107 : ∀ t, Steps p.tables e below (T101.setTop (mkF m 5 #[.val (.int (3 : Int32))] [(.int (3 : Int32)), (.ref b101), (.ref b101)])) t → Steps p.tables e below (s₁.setTop (entryFrame m #[(.int (3 : Int32))] 1)) t := by
    intro t kt
    refine K106 t ?_
    show Steps p.tables e below (T101.setTop (mkF m 3 #[.val (.int (3 : Int32))] [(.ref b101)])) _
    refine XS.dup X101.here hx rfl (hb hby d1_3) rfl rfl ?_
    show Steps p.tables e below (T101.setTop (mkF m 4 #[.val (.int (3 : Int32))] [(.ref b101), (.ref b101)])) _
    refine XS.iloadN X101.here hx rfl (hb hby d1_4) rfl ?_
    exact kt
  obtain ⟨T108, h108, k108, X108, e108, E108, A108, B108, st108⟩ := newPE X101 hx hZ (hw _ (List.mem_of_getElem? (i := 6) rfl)) e101 (g := (mkF m 5 #[.val (.int (3 : Int32))] [(.int (3 : Int32)), (.ref b101), (.ref b101)])) rfl (hb hby d1_5) rfl (by decide) (cap := 3) (by decide) (by decide) (by decide) (by decide) (ad := "[J") (by decide)
  obtain ⟨b108, g108⟩ : ∃ z, z = h101.size := ⟨_, rfl⟩
  rw [← g108] at A108 B108 st108
  have ne_b101_b108 : b101 ≠ b108 := by rw [g108]; exact Nat.ne_of_lt A101.lt
  have sz109 : h0.size ≤ b108 := Nat.le_trans f104.1 (Nat.le_of_eq g108.symm)
  have g_b108 : n0 ≤ b108 := Nat.le_trans f103 (Nat.le_of_eq g108.symm)
  have f110 := Nat.le_trans f103 E108.1
  have f111 := f104.ext E108
  have f112 := A101.ext E108
  have f113 := F105.ext E108
  have V108 : Arv Z h108 b108 k108 .long (3 : Int32) [(.long (0 : Int64)), (.long (0 : Int64)), (.long (0 : Int64))] (.long (0 : Int64)) := (Arv.new A108 (by decide)).pad (pad_rep [] (.long (0 : Int64)) 3)
  have K114 : ∀ t, Steps p.tables e below (T108.setTop (mkF m 7 #[.val (.int (3 : Int32))] [(.ref b108), (.ref b101), (.ref b101)])) t → Steps p.tables e below (s₁.setTop (entryFrame m #[(.int (3 : Int32))] 1)) t := fun t kt => K107 t (st108 t kt)
  obtain ⟨_, _, ⟨T115, L115, k115, n115⟩, -, X115, ⟨Lc115, hQ115, l115, y115, z115⟩, st115⟩ := X108.specialBack hx (y := (⟨"com/example/tranchery/tranchery/Cents", "<init>", "([J)V"⟩ : MethodName)) rfl hown (mvT hZ (hw _ (List.mem_of_getElem? (i := 7) rfl))) (mvT hZ (hw _ (List.mem_of_getElem? (i := 8) rfl))) (mvT hZ (hw _ (List.mem_of_getElem? (i := 9) rfl))) (by decide) (backOf (W := 1) (rmCI l Z a0 hw [] b101 b108 h108 n0 f110 f112 f113 g_b101) hZ (hw _ (List.mem_of_getElem? (i := 9) rfl)) (hw _ (List.mem_of_getElem? (i := 2) rfl)) (by decide) (by decide)) (g := (mkF m 7 #[.val (.int (3 : Int32))] [(.ref b108), (.ref b101), (.ref b101)])) rfl (by rw [hml]; rfl) (Steps.refl _) (a := b101) (argsL := [(.ref b108)]) (rest := [(.ref b101)]) (lenOf pd_0 rfl) rfl (by show 2 * 0 + _ ≤ _; exact Nat.le_of_eq rfl) (hb hby d1_7) (fun _ _ => ⟨rfl, e108, (by decide : 2 + 0 ≤ _), (by decide : 4 + 0 ≤ _)⟩)
  dsimp only [Pt.U, Pt.locs, Pt.cells, Pt.slots] at X115 l115 y115 z115 st115 hQ115
  subst l115 y115 z115
  obtain ⟨rfl, Nq115, Kq115, FA115⟩ := hQ115
  have f116 := Nat.le_trans f110 Kq115.1
  have f117 := f111.trans Kq115 (allS (Or.inr sz102) all0)
  have f118 := f112.keep Kq115
  have f119 := V108.keep Kq115 (own_nin (Ne.symm ne_b101_b108))
  have f120 := B108.keep Kq115
  have N115 := Fr.app N0 Nq115
  have K121 : ∀ t, Steps p.tables e below (T115.setTop (mkF m 10 #[.val (.int (3 : Int32))] [(.ref b101)])) t → Steps p.tables e below (s₁.setTop (entryFrame m #[(.int (3 : Int32))] 1)) t := fun t kt => K114 t (st115.trans kt)
  obtain ⟨fs, hr, hrun, hended, hW, hsame⟩ := X115.leave (v := some (.ref b101)) (fun h => by rw [Bd.returns] at h; cases h) (hlocks := hlk)
  refine ⟨_, _, K121 _ ?_, hrun, hended, _, _, rfl, ?_, ⟨_, rfl⟩, hW, hsame.mono (by decide) (by decide)⟩
  · exact retOut X115 hx Bd.returns rfl (Or.inr (Or.inr (Or.inr (Or.inr ⟨rfl, rfl, rfl⟩)))) (hb hby d1_10) hr
  · show QrmZ3 Z h0 n0 _ T115.heap _
    exact ⟨_, _, _, rfl, ⟨f118, FA115, f119, f120⟩, N115, f117⟩
theorem ef_rmSX (m : MethodId) (x0 : Int64) (x1 : Int64) : entryFrame m #[(.long x0), (.long x1)] 6 = mkF m 0 #[.val (.long x0), .second, .val (.long x1), .second, .unset, .unset] [] := by first | (simp [entryFrame, mkF, argsToLocals, Value.category]; done) | rfl
def QrmSX (q1 q2 : Int64) (h0 : Heap) (n0 : Nat) (v : Option Value) (h : Heap) (L : List Loc) : Prop := v = some (.long (q1 - q2)) ∧ Fr n0 L ∧ h = h0
set_option maxRecDepth 65536 in
set_option maxHeartbeats 40000000 in
theorem rmSX (l : Launch) (Z : State) (a0 : Array Value) (hw : ∀ d ∈ tables_1, d.before a0 Z = true) (ws : List Jvm.Cond) (q1 q2 : Int64) (h0 : Heap) (n0 : Nat) (Z0 : n0 ≤ h0.size) (hf : Jvm.Free.XT.fits64 (q1.toInt - q2.toInt)) :
    MetFree l (⟨"java/lang/Math", "subtractExact", "(JJ)J"⟩ : MethodName) (head1 (Jvm.Cond.code (⟨"java/lang/Math", "subtractExact", "(JJ)J"⟩ : MethodName) jdk_29_method_27_code 6 (some .long) :: ws) ({ frames := 0, cells := 0, slots := 0, locals := 0 } : Room)) (fun a U => a = #[(.long q1), (.long q2)] ∧ Z.Warmed39 U.vm ∧ U.heap = h0) (fun _ _ _ _ _ => True) (fun _ U o U' => ∃ v L, o = .returned v ∧ QrmSX q1 q2 h0 n0 v U'.heap L ∧ FrameEnd U o U' L ({ frames := 0, cells := 0, slots := 0, locals := 0 } : Room).cells ({ frames := 0, cells := 0, slots := 0, locals := 0 } : Room).slots) := by
  refine MetFree.of_bodySF (Jvm.Free.JP.mathPlain rfl (by decide +kernel)) hisR ?_
  intro p e s m args below meth c s₁ Bd hml0 hP hK
  obtain ⟨rfl, hZ, hh⟩ := hP
  have hx := Bd.exec
  have hlk : meth.locks = false := BodyLoose.notSynchronized Bd
  have hby := Bd.bytes
  have hml : c.maxLocals = 6 := hml0
  have hown : s.vm.findClass "java/lang/Math" = some m.cls := findClass_of_methodNamed Bd.named
  have hnm := (name_of_methodNamed Bd.named Bd.method).1
  have X0 : Stand p l e ({ frames := 0, cells := 0, slots := 0, locals := 0 } : Room) s m #[(.long q1), (.long q2)] below meth c s₁ [] 0 0 := Stand.of_body Bd
  have e0 : s₁.heap = h0 := by rw [← hh, Bd.state]; rfl
  have N0 := Fr.nil n0
  have K0 : ∀ t, Steps p.tables e below (s₁.setTop (mkF m 0 #[.val (.long q1), .second, .val (.long q2), .second, .unset, .unset] [])) t → Steps p.tables e below (s₁.setTop (entryFrame m #[(.long q1), (.long q2)] 6)) t := fun t k => castTop (ef_rmSX m q1 q2) k
  have KK0 : Keep h0 h0 [] := Keep.refl _ _
  
  have K101 : ∀ t, Steps p.tables e below (s₁.setTop (mkF m 30 #[.val (.long q1), .second, .val (.long q2), .second, .val (.long (q1 - q2)), .second] [(.long (q1 - q2))])) t → Steps p.tables e below (s₁.setTop (entryFrame m #[(.long q1), (.long q2)] 6)) t := by
    intro t kt
    refine K0 t ?_
    show Steps p.tables e below (s₁.setTop (mkF m 0 #[.val (.long q1), .second, .val (.long q2), .second, .unset, .unset] [])) _
    refine XS.lloadN X0.here hx rfl (hb hby d5_0) rfl ?_
    show Steps p.tables e below (s₁.setTop (mkF m 1 #[.val (.long q1), .second, .val (.long q2), .second, .unset, .unset] [(.long q1)])) _
    refine XS.lloadN X0.here hx rfl (hb hby d5_1) rfl ?_
    show Steps p.tables e below (s₁.setTop (mkF m 2 #[.val (.long q1), .second, .val (.long q2), .second, .unset, .unset] [(.long q2), (.long q1)])) _
    refine XS.lsub X0.here hx rfl (hb hby d5_2) rfl ?_
    show Steps p.tables e below (s₁.setTop (mkF m 3 #[.val (.long q1), .second, .val (.long q2), .second, .unset, .unset] [(.long (q1 - q2))])) _
    refine XS.lstore X0.here hx rfl (hb hby d5_3) rfl (l' := #[.val (.long q1), .second, .val (.long q2), .second, .val (.long (q1 - q2)), .second]) rfl ?_
    show Steps p.tables e below (s₁.setTop (mkF m 5 #[.val (.long q1), .second, .val (.long q2), .second, .val (.long (q1 - q2)), .second] [])) _
    refine XS.lloadN X0.here hx rfl (hb hby d5_5) rfl ?_
    show Steps p.tables e below (s₁.setTop (mkF m 6 #[.val (.long q1), .second, .val (.long q2), .second, .val (.long (q1 - q2)), .second] [(.long q1)])) _
    refine XS.lloadN X0.here hx rfl (hb hby d5_6) rfl ?_
    show Steps p.tables e below (s₁.setTop (mkF m 7 #[.val (.long q1), .second, .val (.long q2), .second, .val (.long (q1 - q2)), .second] [(.long q2), (.long q1)])) _
    refine XS.lxor X0.here hx rfl (hb hby d5_7) rfl ?_
    show Steps p.tables e below (s₁.setTop (mkF m 8 #[.val (.long q1), .second, .val (.long q2), .second, .val (.long (q1 - q2)), .second] [(.long (q1 ^^^ q2))])) _
    refine XS.lloadN X0.here hx rfl (hb hby d5_8) rfl ?_
    show Steps p.tables e below (s₁.setTop (mkF m 9 #[.val (.long q1), .second, .val (.long q2), .second, .val (.long (q1 - q2)), .second] [(.long q1), (.long (q1 ^^^ q2))])) _
    refine XS.lload X0.here hx rfl (hb hby d5_9) rfl ?_
    show Steps p.tables e below (s₁.setTop (mkF m 11 #[.val (.long q1), .second, .val (.long q2), .second, .val (.long (q1 - q2)), .second] [(.long (q1 - q2)), (.long q1), (.long (q1 ^^^ q2))])) _
    refine XS.lxor X0.here hx rfl (hb hby d5_11) rfl ?_
    show Steps p.tables e below (s₁.setTop (mkF m 12 #[.val (.long q1), .second, .val (.long q2), .second, .val (.long (q1 - q2)), .second] [(.long (q1 ^^^ (q1 - q2))), (.long (q1 ^^^ q2))])) _
    refine XS.land X0.here hx rfl (hb hby d5_12) rfl ?_
    show Steps p.tables e below (s₁.setTop (mkF m 13 #[.val (.long q1), .second, .val (.long q2), .second, .val (.long (q1 - q2)), .second] [(.long ((q1 ^^^ q2) &&& (q1 ^^^ (q1 - q2))))])) _
    refine XS.lconst X0.here hx rfl (hb hby d5_13) ?_
    show Steps p.tables e below (s₁.setTop (mkF m 14 #[.val (.long q1), .second, .val (.long q2), .second, .val (.long (q1 - q2)), .second] [(.long (0 : Int64)), (.long ((q1 ^^^ q2) &&& (q1 ^^^ (q1 - q2))))])) _
    refine XS.lcmp X0.here hx rfl (hb hby d5_14) rfl ?_
    show Steps p.tables e below (s₁.setTop (mkF m 15 #[.val (.long q1), .second, .val (.long q2), .second, .val (.long (q1 - q2)), .second] [(.int (lcmpW ((q1 ^^^ q2) &&& (q1 ^^^ (q1 - q2))) (0 : Int64)))])) _
    refine XS.ifYes X0.here hx rfl (pc0 := 15) (pc' := 28) rfl (hb hby d5_15) rfl ((if0 _ _).trans (flt ((fun z => Jvm.Free.XT.subOk64 hf ((lw_lt _ _).mp z)) : ¬ ((lcmpW ((q1 ^^^ q2) &&& (q1 ^^^ (q1 - q2))) (0 : Int64)) < (0 : Int32)))).2.1) (by decide) (by decide) ?_
    show Steps p.tables e below (s₁.setTop (mkF m 28 #[.val (.long q1), .second, .val (.long q2), .second, .val (.long (q1 - q2)), .second] [])) _
    refine XS.lload X0.here hx rfl (hb hby d5_28) rfl ?_
    exact kt
  obtain ⟨fs, hr, hrun, hended, hW, hsame⟩ := X0.leave (v := some (.long (q1 - q2))) (fun h => by rw [Bd.returns] at h; cases h) (hlocks := hlk)
  refine ⟨_, _, K101 _ ?_, hrun, hended, _, _, rfl, ?_, ⟨_, rfl⟩, hW, hsame.mono (by decide) (by decide)⟩
  · exact retOut X0 hx Bd.returns rfl (Or.inr (Or.inl ⟨rfl, rfl, _, rfl⟩)) (hb hby d5_30) hr
  · show QrmSX q1 q2 h0 n0 _ s₁.heap _
    rw [e0]
    exact ⟨rfl, N0, rfl⟩
theorem ef_rmAX (m : MethodId) (x0 : Int64) (x1 : Int64) : entryFrame m #[(.long x0), (.long x1)] 6 = mkF m 0 #[.val (.long x0), .second, .val (.long x1), .second, .unset, .unset] [] := by first | (simp [entryFrame, mkF, argsToLocals, Value.category]; done) | rfl
def QrmAX (q1 q2 : Int64) (h0 : Heap) (n0 : Nat) (v : Option Value) (h : Heap) (L : List Loc) : Prop := v = some (.long (q1 + q2)) ∧ Fr n0 L ∧ h = h0
set_option maxRecDepth 65536 in
set_option maxHeartbeats 40000000 in
theorem rmAX (l : Launch) (Z : State) (a0 : Array Value) (hw : ∀ d ∈ tables_1, d.before a0 Z = true) (ws : List Jvm.Cond) (q1 q2 : Int64) (h0 : Heap) (n0 : Nat) (Z0 : n0 ≤ h0.size) (hf : Jvm.Free.XT.fits64 (q1.toInt + q2.toInt)) :
    MetFree l (⟨"java/lang/Math", "addExact", "(JJ)J"⟩ : MethodName) (head1 (Jvm.Cond.code (⟨"java/lang/Math", "addExact", "(JJ)J"⟩ : MethodName) jdk_29_method_25_code 6 (some .long) :: ws) ({ frames := 0, cells := 0, slots := 0, locals := 0 } : Room)) (fun a U => a = #[(.long q1), (.long q2)] ∧ Z.Warmed39 U.vm ∧ U.heap = h0) (fun _ _ _ _ _ => True) (fun _ U o U' => ∃ v L, o = .returned v ∧ QrmAX q1 q2 h0 n0 v U'.heap L ∧ FrameEnd U o U' L ({ frames := 0, cells := 0, slots := 0, locals := 0 } : Room).cells ({ frames := 0, cells := 0, slots := 0, locals := 0 } : Room).slots) := by
  refine MetFree.of_bodySF (Jvm.Free.JP.mathPlain rfl (by decide +kernel)) hisR ?_
  intro p e s m args below meth c s₁ Bd hml0 hP hK
  obtain ⟨rfl, hZ, hh⟩ := hP
  have hx := Bd.exec
  have hlk : meth.locks = false := BodyLoose.notSynchronized Bd
  have hby := Bd.bytes
  have hml : c.maxLocals = 6 := hml0
  have hown : s.vm.findClass "java/lang/Math" = some m.cls := findClass_of_methodNamed Bd.named
  have hnm := (name_of_methodNamed Bd.named Bd.method).1
  have X0 : Stand p l e ({ frames := 0, cells := 0, slots := 0, locals := 0 } : Room) s m #[(.long q1), (.long q2)] below meth c s₁ [] 0 0 := Stand.of_body Bd
  have e0 : s₁.heap = h0 := by rw [← hh, Bd.state]; rfl
  have N0 := Fr.nil n0
  have K0 : ∀ t, Steps p.tables e below (s₁.setTop (mkF m 0 #[.val (.long q1), .second, .val (.long q2), .second, .unset, .unset] [])) t → Steps p.tables e below (s₁.setTop (entryFrame m #[(.long q1), (.long q2)] 6)) t := fun t k => castTop (ef_rmAX m q1 q2) k
  have KK0 : Keep h0 h0 [] := Keep.refl _ _
  
  have K101 : ∀ t, Steps p.tables e below (s₁.setTop (mkF m 31 #[.val (.long q1), .second, .val (.long q2), .second, .val (.long (q1 + q2)), .second] [(.long (q1 + q2))])) t → Steps p.tables e below (s₁.setTop (entryFrame m #[(.long q1), (.long q2)] 6)) t := by
    intro t kt
    refine K0 t ?_
    show Steps p.tables e below (s₁.setTop (mkF m 0 #[.val (.long q1), .second, .val (.long q2), .second, .unset, .unset] [])) _
    refine XS.lloadN X0.here hx rfl (hb hby d6_0) rfl ?_
    show Steps p.tables e below (s₁.setTop (mkF m 1 #[.val (.long q1), .second, .val (.long q2), .second, .unset, .unset] [(.long q1)])) _
    refine XS.lloadN X0.here hx rfl (hb hby d6_1) rfl ?_
    show Steps p.tables e below (s₁.setTop (mkF m 2 #[.val (.long q1), .second, .val (.long q2), .second, .unset, .unset] [(.long q2), (.long q1)])) _
    refine XS.ladd X0.here hx rfl (hb hby d6_2) rfl ?_
    show Steps p.tables e below (s₁.setTop (mkF m 3 #[.val (.long q1), .second, .val (.long q2), .second, .unset, .unset] [(.long (q1 + q2))])) _
    refine XS.lstore X0.here hx rfl (hb hby d6_3) rfl (l' := #[.val (.long q1), .second, .val (.long q2), .second, .val (.long (q1 + q2)), .second]) rfl ?_
    show Steps p.tables e below (s₁.setTop (mkF m 5 #[.val (.long q1), .second, .val (.long q2), .second, .val (.long (q1 + q2)), .second] [])) _
    refine XS.lloadN X0.here hx rfl (hb hby d6_5) rfl ?_
    show Steps p.tables e below (s₁.setTop (mkF m 6 #[.val (.long q1), .second, .val (.long q2), .second, .val (.long (q1 + q2)), .second] [(.long q1)])) _
    refine XS.lload X0.here hx rfl (hb hby d6_6) rfl ?_
    show Steps p.tables e below (s₁.setTop (mkF m 8 #[.val (.long q1), .second, .val (.long q2), .second, .val (.long (q1 + q2)), .second] [(.long (q1 + q2)), (.long q1)])) _
    refine XS.lxor X0.here hx rfl (hb hby d6_8) rfl ?_
    show Steps p.tables e below (s₁.setTop (mkF m 9 #[.val (.long q1), .second, .val (.long q2), .second, .val (.long (q1 + q2)), .second] [(.long (q1 ^^^ (q1 + q2)))])) _
    refine XS.lloadN X0.here hx rfl (hb hby d6_9) rfl ?_
    show Steps p.tables e below (s₁.setTop (mkF m 10 #[.val (.long q1), .second, .val (.long q2), .second, .val (.long (q1 + q2)), .second] [(.long q2), (.long (q1 ^^^ (q1 + q2)))])) _
    refine XS.lload X0.here hx rfl (hb hby d6_10) rfl ?_
    show Steps p.tables e below (s₁.setTop (mkF m 12 #[.val (.long q1), .second, .val (.long q2), .second, .val (.long (q1 + q2)), .second] [(.long (q1 + q2)), (.long q2), (.long (q1 ^^^ (q1 + q2)))])) _
    refine XS.lxor X0.here hx rfl (hb hby d6_12) rfl ?_
    show Steps p.tables e below (s₁.setTop (mkF m 13 #[.val (.long q1), .second, .val (.long q2), .second, .val (.long (q1 + q2)), .second] [(.long (q2 ^^^ (q1 + q2))), (.long (q1 ^^^ (q1 + q2)))])) _
    refine XS.land X0.here hx rfl (hb hby d6_13) rfl ?_
    show Steps p.tables e below (s₁.setTop (mkF m 14 #[.val (.long q1), .second, .val (.long q2), .second, .val (.long (q1 + q2)), .second] [(.long ((q1 ^^^ (q1 + q2)) &&& (q2 ^^^ (q1 + q2))))])) _
    refine XS.lconst X0.here hx rfl (hb hby d6_14) ?_
    show Steps p.tables e below (s₁.setTop (mkF m 15 #[.val (.long q1), .second, .val (.long q2), .second, .val (.long (q1 + q2)), .second] [(.long (0 : Int64)), (.long ((q1 ^^^ (q1 + q2)) &&& (q2 ^^^ (q1 + q2))))])) _
    refine XS.lcmp X0.here hx rfl (hb hby d6_15) rfl ?_
    show Steps p.tables e below (s₁.setTop (mkF m 16 #[.val (.long q1), .second, .val (.long q2), .second, .val (.long (q1 + q2)), .second] [(.int (lcmpW ((q1 ^^^ (q1 + q2)) &&& (q2 ^^^ (q1 + q2))) (0 : Int64)))])) _
    refine XS.ifYes X0.here hx rfl (pc0 := 16) (pc' := 29) rfl (hb hby d6_16) rfl ((if0 _ _).trans (flt ((fun z => Jvm.Free.XT.addOk64 hf ((lw_lt _ _).mp z)) : ¬ ((lcmpW ((q1 ^^^ (q1 + q2)) &&& (q2 ^^^ (q1 + q2))) (0 : Int64)) < (0 : Int32)))).2.1) (by decide) (by decide) ?_
    show Steps p.tables e below (s₁.setTop (mkF m 29 #[.val (.long q1), .second, .val (.long q2), .second, .val (.long (q1 + q2)), .second] [])) _
    refine XS.lload X0.here hx rfl (hb hby d6_29) rfl ?_
    exact kt
  obtain ⟨fs, hr, hrun, hended, hW, hsame⟩ := X0.leave (v := some (.long (q1 + q2))) (fun h => by rw [Bd.returns] at h; cases h) (hlocks := hlk)
  refine ⟨_, _, K101 _ ?_, hrun, hended, _, _, rfl, ?_, ⟨_, rfl⟩, hW, hsame.mono (by decide) (by decide)⟩
  · exact retOut X0 hx Bd.returns rfl (Or.inr (Or.inl ⟨rfl, rfl, _, rfl⟩)) (hb hby d6_31) hr
  · show QrmAX q1 q2 h0 n0 _ s₁.heap _
    rw [e0]
    exact ⟨rfl, N0, rfl⟩
theorem ef_rmM0 (m : MethodId) (x0 : Addr) (x1 : Int32) (x2 : Int32) (x3 : Int64) : entryFrame m #[(.ref x0), (.int x1), (.int x2), (.long x3)] 6 = mkF m 0 #[.val (.ref x0), .val (.int x1), .val (.int x2), .val (.long x3), .second, .unset] [] := by first | (simp [entryFrame, mkF, argsToLocals, Value.category]; done) | rfl
def QrmM0 (Z : State) (q x0 x1 x2 : Int64) (h0 : Heap) (n0 : Nat) (v : Option Value) (h : Heap) (L : List Loc) : Prop := ∃ (b t : Addr) (kk : ClassId), v = some (.ref b) ∧ (Exa Z h b "com/example/tranchery/tranchery/Cents" ∧ Fld Z h b "com/example/tranchery/tranchery/Cents" "amounts" "[J" (.ref t) ∧ Arv Z h t kk .long (3 : Int32) [(.long (x0 - q)), (.long (x1 + q)), (.long x2)] (.long (0 : Int64)) ∧ Exa Z h t "[J") ∧ Fr n0 L ∧ Keep h0 h []
set_option maxRecDepth 65536 in
set_option maxHeartbeats 40000000 in
theorem rmM0 (l : Launch) (Z : State) (a0 : Array Value) (hw : ∀ d ∈ tables_1, d.before a0 Z = true) (ws : List Jvm.Cond) (a1 t1 : Addr) (k1 : ClassId) (q x0 x1 x2 : Int64) (h0 : Heap) (n0 : Nat) (Z0 : n0 ≤ h0.size) (E1 : Exa Z h0 a1 "com/example/tranchery/tranchery/Cents") (F1 : Fld Z h0 a1 "com/example/tranchery/tranchery/Cents" "amounts" "[J" (.ref t1)) (V1 : Arv Z h0 t1 k1 .long (3 : Int32) [(.long x0), (.long x1), (.long x2)] (.long (0 : Int64))) (B1 : Exa Z h0 t1 "[J") (hs : Jvm.Free.XT.fits64 (x0.toInt - q.toInt)) (ha : Jvm.Free.XT.fits64 (x1.toInt + q.toInt)) :
    MetFree l (⟨"com/example/tranchery/tranchery/Cents", "moved", "(IIJ)Lcom/example/tranchery/tranchery/Cents;"⟩ : MethodName) (head1 (Jvm.Cond.code (⟨"com/example/tranchery/tranchery/Cents", "moved", "(IIJ)Lcom/example/tranchery/tranchery/Cents;"⟩ : MethodName) prog_5_method_12_code 6 (some (.object "com/example/tranchery/tranchery/Cents")) :: ws) ({ frames := 2, cells := 2, slots := 4, locals := 26 } : Room)) (fun a U => a = #[(.ref a1), (.int (0 : Int32)), (.int (1 : Int32)), (.long q)] ∧ Z.Warmed39 U.vm ∧ U.heap = h0) (fun _ _ _ _ _ => True) (fun _ U o U' => ∃ v L, o = .returned v ∧ QrmM0 Z q x0 x1 x2 h0 n0 v U'.heap L ∧ FrameEnd U o U' L ({ frames := 2, cells := 2, slots := 4, locals := 26 } : Room).cells ({ frames := 2, cells := 2, slots := 4, locals := 26 } : Room).slots) := by
  refine MetFree.of_bodySF (plainFor_of_name pn_2) hisR ?_
  intro p e s m args below meth c s₁ Bd hml0 hP hK
  obtain ⟨rfl, hZ, hh⟩ := hP
  have hx := Bd.exec
  have hlk : meth.locks = false := BodyLoose.notSynchronized Bd
  have hby := Bd.bytes
  have hml : c.maxLocals = 6 := hml0
  have hown : s.vm.findClass "com/example/tranchery/tranchery/Cents" = some m.cls := findClass_of_methodNamed Bd.named
  have hnm := (name_of_methodNamed Bd.named Bd.method).1
  have X0 : Stand p l e ({ frames := 2, cells := 2, slots := 4, locals := 26 } : Room) s m #[(.ref a1), (.int (0 : Int32)), (.int (1 : Int32)), (.long q)] below meth c s₁ [] 0 0 := Stand.of_body Bd
  have e0 : s₁.heap = h0 := by rw [← hh, Bd.state]; rfl
  have N0 := Fr.nil n0
  have K0 : ∀ t, Steps p.tables e below (s₁.setTop (mkF m 0 #[.val (.ref a1), .val (.int (0 : Int32)), .val (.int (1 : Int32)), .val (.long q), .second, .unset] [])) t → Steps p.tables e below (s₁.setTop (entryFrame m #[(.ref a1), (.int (0 : Int32)), (.int (1 : Int32)), (.long q)] 6)) t := fun t k => castTop (ef_rmM0 m a1 (0 : Int32) (1 : Int32) q) k
  have KK0 : Keep h0 h0 [] := Keep.refl _ _
  
  have K101 : ∀ t, Steps p.tables e below (s₁.setTop (mkF m 1 #[.val (.ref a1), .val (.int (0 : Int32)), .val (.int (1 : Int32)), .val (.long q), .second, .unset] [(.ref a1)])) t → Steps p.tables e below (s₁.setTop (entryFrame m #[(.ref a1), (.int (0 : Int32)), (.int (1 : Int32)), (.long q)] 6)) t := by
    intro t kt
    refine K0 t ?_
    show Steps p.tables e below (s₁.setTop (mkF m 0 #[.val (.ref a1), .val (.int (0 : Int32)), .val (.int (1 : Int32)), .val (.long q), .second, .unset] [])) _
    refine XS.aloadN X0.here hx rfl (hb hby d4_0) rfl rfl ?_
    exact kt
  obtain ⟨T102, X102, e102, st102⟩ := getF X0 hx hZ hown (host := "") (Or.inl (hw _ (List.mem_of_getElem? (i := 13) rfl))) Via.refl e0 F1 (g := (mkF m 1 #[.val (.ref a1), .val (.int (0 : Int32)), .val (.int (1 : Int32)), .val (.long q), .second, .unset] [(.ref a1)])) rfl rfl (hb hby d4_1)
  have K103 : ∀ t, Steps p.tables e below (T102.setTop (mkF m 4 #[.val (.ref a1), .val (.int (0 : Int32)), .val (.int (1 : Int32)), .val (.long q), .second, .unset] [(.ref t1)])) t → Steps p.tables e below (s₁.setTop (entryFrame m #[(.ref a1), (.int (0 : Int32)), (.int (1 : Int32)), (.long q)] 6)) t := fun t kt => K101 t (st102 t kt)
  obtain ⟨T104, h104, X104, e104, E104, A104, B104, st104⟩ := cloneH X102 hx hZ hown (hw _ (List.mem_of_getElem? (i := 20) rfl)) (hw _ (List.mem_of_getElem? (i := 21) rfl)) (hw _ (List.mem_of_getElem? (i := 25) rfl)) (hw _ (List.mem_of_getElem? (i := 23) rfl)) (hw _ (List.mem_of_getElem? (i := 24) rfl)) (hw _ (List.mem_of_getElem? (i := 26) rfl)) e102 V1.arh B1 (g := (mkF m 4 #[.val (.ref a1), .val (.int (0 : Int32)), .val (.int (1 : Int32)), .val (.long q), .second, .unset] [(.ref t1)])) rfl (by rw [hml]; rfl) rfl (hb hby d4_4) (by decide) (W := 0) (by show 2 * 0 + _ ≤ _; exact Nat.le_of_eq rfl) (by decide) (cap := 3) (by decide) (by decide) (by decide)
  obtain ⟨b104, g104⟩ : ∃ z, z = h0.size := ⟨_, rfl⟩
  rw [← g104] at A104 B104 st104
  have ne_a1_b104 : a1 ≠ b104 := by rw [g104]; exact Nat.ne_of_lt E1.lt
  have ne_t1_b104 : t1 ≠ b104 := by rw [g104]; exact Nat.ne_of_lt V1.lt
  have sz105 : h0.size ≤ b104 := Nat.le_trans KK0.1 (Nat.le_of_eq g104.symm)
  have g_b104 : n0 ≤ b104 := Nat.le_trans Z0 (Nat.le_of_eq g104.symm)
  have f106 := Nat.le_trans Z0 E104.1
  have f107 := KK0.ext E104
  have f108 := E1.ext E104
  have f109 := F1.ext E104
  have f110 := V1.ext E104
  have f111 := B1.ext E104
  have V104 : Arv Z h104 b104 k1 .long (3 : Int32) [(.long x0), (.long x1), (.long x2)] (.long (0 : Int64)) := A104
  have K112 : ∀ t, Steps p.tables e below (T104.setTop (mkF m 7 #[.val (.ref a1), .val (.int (0 : Int32)), .val (.int (1 : Int32)), .val (.long q), .second, .unset] [(.ref b104)])) t → Steps p.tables e below (s₁.setTop (entryFrame m #[(.ref a1), (.int (0 : Int32)), (.int (1 : Int32)), (.long q)] 6)) t := fun t kt => K103 t (st104 t kt)
  obtain ⟨T113, X113, e113, st113⟩ := castY X104 hx hZ hown (hw _ (List.mem_of_getElem? (i := 27) rfl)) e104 (Ins.self B104) (g := (mkF m 7 #[.val (.ref a1), .val (.int (0 : Int32)), .val (.int (1 : Int32)), .val (.long q), .second, .unset] [(.ref b104)])) rfl rfl (hb hby d4_7)
  have K114 : ∀ t, Steps p.tables e below (T113.setTop (mkF m 10 #[.val (.ref a1), .val (.int (0 : Int32)), .val (.int (1 : Int32)), .val (.long q), .second, .unset] [(.ref b104)])) t → Steps p.tables e below (s₁.setTop (entryFrame m #[(.ref a1), (.int (0 : Int32)), (.int (1 : Int32)), (.long q)] 6)) t := fun t kt => K112 t (st113 t kt)
  have K115 : ∀ t, Steps p.tables e below (T113.setTop (mkF m 18 #[.val (.ref a1), .val (.int (0 : Int32)), .val (.int (1 : Int32)), .val (.long q), .second, .val (.ref b104)] [(.int (0 : Int32)), (.ref b104), (.int (0 : Int32)), (.ref b104)])) t → Steps p.tables e below (s₁.setTop (entryFrame m #[(.ref a1), (.int (0 : Int32)), (.int (1 : Int32)), (.long q)] 6)) t := by
    intro t kt
    refine K114 t ?_
    show Steps p.tables e below (T113.setTop (mkF m 10 #[.val (.ref a1), .val (.int (0 : Int32)), .val (.int (1 : Int32)), .val (.long q), .second, .unset] [(.ref b104)])) _
    refine XS.astore X113.here hx rfl (hb hby d4_10) rfl rfl (l' := #[.val (.ref a1), .val (.int (0 : Int32)), .val (.int (1 : Int32)), .val (.long q), .second, .val (.ref b104)]) rfl ?_
    show Steps p.tables e below (T113.setTop (mkF m 12 #[.val (.ref a1), .val (.int (0 : Int32)), .val (.int (1 : Int32)), .val (.long q), .second, .val (.ref b104)] [])) _
    refine XS.aload X113.here hx rfl (hb hby d4_12) rfl rfl ?_
    show Steps p.tables e below (T113.setTop (mkF m 14 #[.val (.ref a1), .val (.int (0 : Int32)), .val (.int (1 : Int32)), .val (.long q), .second, .val (.ref b104)] [(.ref b104)])) _
    refine XS.iloadN X113.here hx rfl (hb hby d4_14) rfl ?_
    show Steps p.tables e below (T113.setTop (mkF m 15 #[.val (.ref a1), .val (.int (0 : Int32)), .val (.int (1 : Int32)), .val (.long q), .second, .val (.ref b104)] [(.int (0 : Int32)), (.ref b104)])) _
    refine XS.aload X113.here hx rfl (hb hby d4_15) rfl rfl ?_
    show Steps p.tables e below (T113.setTop (mkF m 17 #[.val (.ref a1), .val (.int (0 : Int32)), .val (.int (1 : Int32)), .val (.long q), .second, .val (.ref b104)] [(.ref b104), (.int (0 : Int32)), (.ref b104)])) _
    refine XS.iloadN X113.here hx rfl (hb hby d4_17) rfl ?_
    exact kt
  obtain ⟨cl116, Ar116, q116, S116, M116, H116, G116⟩ := id V104
  have hin116 : ¬ ((0 : Int32) < 0 ∨ cl116.slots.size ≤ ((0 : Int32)).toNatClampNeg) := inb_of S116 ⟨by decide, by decide⟩
  have hat116 : cl116.slots[((0 : Int32)).toNatClampNeg]? = some (.long x0) := H116 0 (by rw [S116]; decide)
  have K117 : ∀ t, Steps p.tables e below (T113.setTop (mkF m 20 #[.val (.ref a1), .val (.int (0 : Int32)), .val (.int (1 : Int32)), .val (.long q), .second, .val (.ref b104)] [(.long q), (.long x0), (.int (0 : Int32)), (.ref b104)])) t → Steps p.tables e below (s₁.setTop (entryFrame m #[(.ref a1), (.int (0 : Int32)), (.int (1 : Int32)), (.long q)] 6)) t := by
    intro t kt
    refine K115 t ?_
    show Steps p.tables e below (T113.setTop (mkF m 18 #[.val (.ref a1), .val (.int (0 : Int32)), .val (.int (1 : Int32)), .val (.long q), .second, .val (.ref b104)] [(.int (0 : Int32)), (.ref b104), (.int (0 : Int32)), (.ref b104)])) _
    refine X113.laload hx (j := (0 : Int32)) (v := (.long x0)) (by rw [e113]; exact Ar116.1) (State.isArrayOf_alike hZ.alike Ar116.2.1) Ar116.2.2 hin116 hat116 (g := (mkF m 18 #[.val (.ref a1), .val (.int (0 : Int32)), .val (.int (1 : Int32)), .val (.long q), .second, .val (.ref b104)] [(.int (0 : Int32)), (.ref b104), (.int (0 : Int32)), (.ref b104)])) rfl rfl (hb hby d4_18) _ ?_
    show Steps p.tables e below (T113.setTop (mkF m 19 #[.val (.ref a1), .val (.int (0 : Int32)), .val (.int (1 : Int32)), .val (.long q), .second, .val (.ref b104)] [(.long x0), (.int (0 : Int32)), (.ref b104)])) _
    refine XS.lloadN X113.here hx rfl (hb hby d4_19) rfl ?_
    exact kt
  obtain ⟨_, _, ⟨T118, L118, k118, n118⟩, -, X118, ⟨Lc118, hQ118, l118, y118, z118⟩, st118⟩ := Jvm.LawKit.callS X113 hx (y := (⟨"java/lang/Math", "subtractExact", "(JJ)J"⟩ : MethodName)) hown (mvT hZ (hw _ (List.mem_of_getElem? (i := 29) rfl))) (mvT hZ (hw _ (List.mem_of_getElem? (i := 30) rfl))) (mvT hZ (hw _ (List.mem_of_getElem? (i := 31) rfl))) (mvT hZ (hw _ (List.mem_of_getElem? (i := 32) rfl))) (by decide) (backOf (W := 2) (rmSX l Z a0 hw [] x0 q h104 n0 f106 hs) hZ (hw _ (List.mem_of_getElem? (i := 32) rfl)) (hw _ (List.mem_of_getElem? (i := 31) rfl)) (by decide) (by decide)) (g := (mkF m 20 #[.val (.ref a1), .val (.int (0 : Int32)), .val (.int (1 : Int32)), .val (.long q), .second, .val (.ref b104)] [(.long q), (.long x0), (.int (0 : Int32)), (.ref b104)])) rfl (by rw [hml]; rfl) (argsL := [(.long x0), (.long q)]) (rest := [(.int (0 : Int32)), (.ref b104)]) (lenOf pd_1 rfl) rfl (by show 2 * 0 + _ ≤ _; exact Nat.le_of_eq rfl) (hb hby d4_20) (fun _ _ => ⟨rfl, e113, (by decide : 1 + 0 ≤ _), (by decide : 3 + 0 ≤ _)⟩)
  dsimp only [Pt.U, Pt.locs, Pt.cells, Pt.slots] at X118 l118 y118 z118 st118 hQ118
  subst l118 y118 z118
  obtain ⟨rfl, Nq118, e118⟩ := hQ118
  have N118 := Fr.app N0 Nq118
  have K119 : ∀ t, Steps p.tables e below (T118.setTop (mkF m 23 #[.val (.ref a1), .val (.int (0 : Int32)), .val (.int (1 : Int32)), .val (.long q), .second, .val (.ref b104)] [(.long (x0 - q)), (.int (0 : Int32)), (.ref b104)])) t → Steps p.tables e below (s₁.setTop (entryFrame m #[(.ref a1), (.int (0 : Int32)), (.int (1 : Int32)), (.long q)] 6)) t := fun t kt => K117 t (st118 t kt)
  obtain ⟨cl120, Ar120, q120, S120, M120, H120, G120⟩ := id V104
  have hin120 : ¬ ((0 : Int32) < 0 ∨ cl120.slots.size ≤ ((0 : Int32)).toNatClampNeg) := inb_of S120 ⟨by decide, by decide⟩
  obtain ⟨T120, h120, X120, e120, W120, st120⟩ := stJ X118 hx hZ e118 Ar120 (j := (0 : Int32)) hin120 (g := (mkF m 23 #[.val (.ref a1), .val (.int (0 : Int32)), .val (.int (1 : Int32)), .val (.long q), .second, .val (.ref b104)] [(.long (x0 - q)), (.int (0 : Int32)), (.ref b104)])) rfl rfl (hb hby d4_23)
  have f121 := Nat.le_trans f106 (Nat.le_of_eq W120.size.symm)
  have f122 := f107.wr W120 (Or.inr sz105)
  have f123 := f108.wr W120
  have f124 := f109.other W120 (Or.inl ne_a1_b104)
  have f125 := f110.other W120 ne_t1_b104
  have f126 := f111.wr W120
  have f127 := B104.wr W120
  have V120 : Arv Z h120 b104 k1 .long (3 : Int32) [(.long (x0 - q)), (.long x1), (.long x2)] (.long (0 : Int64)) := Arv.set Ar120 q120 S120 M120 H120 G120 rfl W120 0 rfl (Nat.le_of_ble_eq_true rfl)
  have N120 := Fr.snoc X120 N118 g_b104
  have K128 : ∀ t, Steps p.tables e below (T120.setTop (mkF m 24 #[.val (.ref a1), .val (.int (0 : Int32)), .val (.int (1 : Int32)), .val (.long q), .second, .val (.ref b104)] [])) t → Steps p.tables e below (s₁.setTop (entryFrame m #[(.ref a1), (.int (0 : Int32)), (.int (1 : Int32)), (.long q)] 6)) t := fun t kt => K119 t (st120 t kt)
  have K129 : ∀ t, Steps p.tables e below (T120.setTop (mkF m 30 #[.val (.ref a1), .val (.int (0 : Int32)), .val (.int (1 : Int32)), .val (.long q), .second, .val (.ref b104)] [(.int (1 : Int32)), (.ref b104), (.int (1 : Int32)), (.ref b104)])) t → Steps p.tables e below (s₁.setTop (entryFrame m #[(.ref a1), (.int (0 : Int32)), (.int (1 : Int32)), (.long q)] 6)) t := by
    intro t kt
    refine K128 t ?_
    show Steps p.tables e below (T120.setTop (mkF m 24 #[.val (.ref a1), .val (.int (0 : Int32)), .val (.int (1 : Int32)), .val (.long q), .second, .val (.ref b104)] [])) _
    refine XS.aload X120.here hx rfl (hb hby d4_24) rfl rfl ?_
    show Steps p.tables e below (T120.setTop (mkF m 26 #[.val (.ref a1), .val (.int (0 : Int32)), .val (.int (1 : Int32)), .val (.long q), .second, .val (.ref b104)] [(.ref b104)])) _
    refine XS.iloadN X120.here hx rfl (hb hby d4_26) rfl ?_
    show Steps p.tables e below (T120.setTop (mkF m 27 #[.val (.ref a1), .val (.int (0 : Int32)), .val (.int (1 : Int32)), .val (.long q), .second, .val (.ref b104)] [(.int (1 : Int32)), (.ref b104)])) _
    refine XS.aload X120.here hx rfl (hb hby d4_27) rfl rfl ?_
    show Steps p.tables e below (T120.setTop (mkF m 29 #[.val (.ref a1), .val (.int (0 : Int32)), .val (.int (1 : Int32)), .val (.long q), .second, .val (.ref b104)] [(.ref b104), (.int (1 : Int32)), (.ref b104)])) _
    refine XS.iloadN X120.here hx rfl (hb hby d4_29) rfl ?_
    exact kt
  obtain ⟨cl130, Ar130, q130, S130, M130, H130, G130⟩ := id V120
  have hin130 : ¬ ((1 : Int32) < 0 ∨ cl130.slots.size ≤ ((1 : Int32)).toNatClampNeg) := inb_of S130 ⟨by decide, by decide⟩
  have hat130 : cl130.slots[((1 : Int32)).toNatClampNeg]? = some (.long x1) := H130 1 (by rw [S130]; decide)
  have K131 : ∀ t, Steps p.tables e below (T120.setTop (mkF m 32 #[.val (.ref a1), .val (.int (0 : Int32)), .val (.int (1 : Int32)), .val (.long q), .second, .val (.ref b104)] [(.long q), (.long x1), (.int (1 : Int32)), (.ref b104)])) t → Steps p.tables e below (s₁.setTop (entryFrame m #[(.ref a1), (.int (0 : Int32)), (.int (1 : Int32)), (.long q)] 6)) t := by
    intro t kt
    refine K129 t ?_
    show Steps p.tables e below (T120.setTop (mkF m 30 #[.val (.ref a1), .val (.int (0 : Int32)), .val (.int (1 : Int32)), .val (.long q), .second, .val (.ref b104)] [(.int (1 : Int32)), (.ref b104), (.int (1 : Int32)), (.ref b104)])) _
    refine X120.laload hx (j := (1 : Int32)) (v := (.long x1)) (by rw [e120]; exact Ar130.1) (State.isArrayOf_alike hZ.alike Ar130.2.1) Ar130.2.2 hin130 hat130 (g := (mkF m 30 #[.val (.ref a1), .val (.int (0 : Int32)), .val (.int (1 : Int32)), .val (.long q), .second, .val (.ref b104)] [(.int (1 : Int32)), (.ref b104), (.int (1 : Int32)), (.ref b104)])) rfl rfl (hb hby d4_30) _ ?_
    show Steps p.tables e below (T120.setTop (mkF m 31 #[.val (.ref a1), .val (.int (0 : Int32)), .val (.int (1 : Int32)), .val (.long q), .second, .val (.ref b104)] [(.long x1), (.int (1 : Int32)), (.ref b104)])) _
    refine XS.lloadN X120.here hx rfl (hb hby d4_31) rfl ?_
    exact kt
  obtain ⟨_, _, ⟨T132, L132, k132, n132⟩, -, X132, ⟨Lc132, hQ132, l132, y132, z132⟩, st132⟩ := Jvm.LawKit.callS X120 hx (y := (⟨"java/lang/Math", "addExact", "(JJ)J"⟩ : MethodName)) hown (mvT hZ (hw _ (List.mem_of_getElem? (i := 33) rfl))) (mvT hZ (hw _ (List.mem_of_getElem? (i := 34) rfl))) (mvT hZ (hw _ (List.mem_of_getElem? (i := 31) rfl))) (mvT hZ (hw _ (List.mem_of_getElem? (i := 35) rfl))) (by decide) (backOf (W := 2) (rmAX l Z a0 hw [] x1 q h120 n0 f121 ha) hZ (hw _ (List.mem_of_getElem? (i := 35) rfl)) (hw _ (List.mem_of_getElem? (i := 31) rfl)) (by decide) (by decide)) (g := (mkF m 32 #[.val (.ref a1), .val (.int (0 : Int32)), .val (.int (1 : Int32)), .val (.long q), .second, .val (.ref b104)] [(.long q), (.long x1), (.int (1 : Int32)), (.ref b104)])) rfl (by rw [hml]; rfl) (argsL := [(.long x1), (.long q)]) (rest := [(.int (1 : Int32)), (.ref b104)]) (lenOf pd_1 rfl) rfl (by show 2 * 0 + _ ≤ _; exact Nat.le_of_eq rfl) (hb hby d4_32) (fun _ _ => ⟨rfl, e120, (by decide : 1 + 0 ≤ _), (by decide : 3 + 0 ≤ _)⟩)
  dsimp only [Pt.U, Pt.locs, Pt.cells, Pt.slots] at X132 l132 y132 z132 st132 hQ132
  subst l132 y132 z132
  obtain ⟨rfl, Nq132, e132⟩ := hQ132
  have N132 := Fr.app N120 Nq132
  have K133 : ∀ t, Steps p.tables e below (T132.setTop (mkF m 35 #[.val (.ref a1), .val (.int (0 : Int32)), .val (.int (1 : Int32)), .val (.long q), .second, .val (.ref b104)] [(.long (x1 + q)), (.int (1 : Int32)), (.ref b104)])) t → Steps p.tables e below (s₁.setTop (entryFrame m #[(.ref a1), (.int (0 : Int32)), (.int (1 : Int32)), (.long q)] 6)) t := fun t kt => K131 t (st132 t kt)
  obtain ⟨cl134, Ar134, q134, S134, M134, H134, G134⟩ := id V120
  have hin134 : ¬ ((1 : Int32) < 0 ∨ cl134.slots.size ≤ ((1 : Int32)).toNatClampNeg) := inb_of S134 ⟨by decide, by decide⟩
  obtain ⟨T134, h134, X134, e134, W134, st134⟩ := stJ X132 hx hZ e132 Ar134 (j := (1 : Int32)) hin134 (g := (mkF m 35 #[.val (.ref a1), .val (.int (0 : Int32)), .val (.int (1 : Int32)), .val (.long q), .second, .val (.ref b104)] [(.long (x1 + q)), (.int (1 : Int32)), (.ref b104)])) rfl rfl (hb hby d4_35)
  have f135 := Nat.le_trans f121 (Nat.le_of_eq W134.size.symm)
  have f136 := f122.wr W134 (Or.inr sz105)
  have f137 := f123.wr W134
  have f138 := f124.other W134 (Or.inl ne_a1_b104)
  have f139 := f125.other W134 ne_t1_b104
  have f140 := f126.wr W134
  have f141 := f127.wr W134
  have V134 : Arv Z h134 b104 k1 .long (3 : Int32) [(.long (x0 - q)), (.long (x1 + q)), (.long x2)] (.long (0 : Int64)) := Arv.set Ar134 q134 S134 M134 H134 G134 rfl W134 1 rfl (Nat.le_of_ble_eq_true rfl)
  have N134 := Fr.snoc X134 N132 g_b104
  have K142 : ∀ t, Steps p.tables e below (T134.setTop (mkF m 36 #[.val (.ref a1), .val (.int (0 : Int32)), .val (.int (1 : Int32)), .val (.long q), .second, .val (.ref b104)] [])) t → Steps p.tables e below (s₁.setTop (entryFrame m #[(.ref a1), (.int (0 : Int32)), (.int (1 : Int32)), (.long q)] 6)) t := fun t kt => K133 t (st134 t kt)
  obtain ⟨T143, h143, X143, e143, E143, A143, D143, U143, st143⟩ := newO X134 hx hZ hown (hw _ (List.mem_of_getElem? (i := 4) rfl)) (hw _ (List.mem_of_getElem? (i := 5) rfl)) (hw _ (List.mem_of_getElem? (i := 2) rfl)) e134 (g := (mkF m 36 #[.val (.ref a1), .val (.int (0 : Int32)), .val (.int (1 : Int32)), .val (.long q), .second, .val (.ref b104)] [])) rfl (hb hby d4_36) (by decide) (by decide)
  obtain ⟨b143, g143⟩ : ∃ z, z = h134.size := ⟨_, rfl⟩
  rw [← g143] at A143 D143 U143 st143
  have ne_a1_b143 : a1 ≠ b143 := by rw [g143]; exact Nat.ne_of_lt f137.lt
  have ne_t1_b143 : t1 ≠ b143 := by rw [g143]; exact Nat.ne_of_lt f139.lt
  have ne_b104_b143 : b104 ≠ b143 := by rw [g143]; exact Nat.ne_of_lt V134.lt
  have sz144 : h0.size ≤ b143 := Nat.le_trans f136.1 (Nat.le_of_eq g143.symm)
  have g_b143 : n0 ≤ b143 := Nat.le_trans f135 (Nat.le_of_eq g143.symm)
  have f145 := Nat.le_trans f135 E143.1
  have f146 := f136.ext E143
  have f147 := f137.ext E143
  have f148 := f138.ext E143
  have f149 := f139.ext E143
  have f150 := f140.ext E143
  have f151 := V134.ext E143
  have f152 := f141.ext E143
  have F153 : Fld Z h143 b143 "com/example/tranchery/tranchery/Cents" "amounts" "[J" .null := D143 (Or.inr (hw _ (List.mem_of_getElem? (i := 14) rfl))) (ty := (.array .long)) (by decide)
  have K154 : ∀ t, Steps p.tables e below (T143.setTop (mkF m 39 #[.val (.ref a1), .val (.int (0 : Int32)), .val (.int (1 : Int32)), .val (.long q), .second, .val (.ref b104)] [(.ref b143)])) t → Steps p.tables e below (s₁.setTop (entryFrame m #[(.ref a1), (.int (0 : Int32)), (.int (1 : Int32)), (.long q)] 6)) t := fun t kt => K142 t (st143 t kt)
  have K155 : ∀ t, Steps p.tables e below (T143.setTop (mkF m 42 #[.val (.ref a1), .val (.int (0 : Int32)), .val (.int (1 : Int32)), .val (.long q), .second, .val (.ref b104)] [(.ref b104), (.ref b143), (.ref b143)])) t → Steps p.tables e below (s₁.setTop (entryFrame m #[(.ref a1), (.int (0 : Int32)), (.int (1 : Int32)), (.long q)] 6)) t := by
    intro t kt
    refine K154 t ?_
    show Steps p.tables e below (T143.setTop (mkF m 39 #[.val (.ref a1), .val (.int (0 : Int32)), .val (.int (1 : Int32)), .val (.long q), .second, .val (.ref b104)] [(.ref b143)])) _
    refine XS.dup X143.here hx rfl (hb hby d4_39) rfl rfl ?_
    show Steps p.tables e below (T143.setTop (mkF m 40 #[.val (.ref a1), .val (.int (0 : Int32)), .val (.int (1 : Int32)), .val (.long q), .second, .val (.ref b104)] [(.ref b143), (.ref b143)])) _
    refine XS.aload X143.here hx rfl (hb hby d4_40) rfl rfl ?_
    exact kt
  obtain ⟨_, _, ⟨T156, L156, k156, n156⟩, -, X156, ⟨Lc156, hQ156, l156, y156, z156⟩, st156⟩ := X143.specialBack hx (y := (⟨"com/example/tranchery/tranchery/Cents", "<init>", "([J)V"⟩ : MethodName)) rfl hown (mvT hZ (hw _ (List.mem_of_getElem? (i := 7) rfl))) (mvT hZ (hw _ (List.mem_of_getElem? (i := 8) rfl))) (mvT hZ (hw _ (List.mem_of_getElem? (i := 9) rfl))) (by decide) (backOf (W := 1) (rmCI l Z a0 hw [] b143 b104 h143 n0 f145 A143 F153 g_b143) hZ (hw _ (List.mem_of_getElem? (i := 9) rfl)) (hw _ (List.mem_of_getElem? (i := 2) rfl)) (by decide) (by decide)) (g := (mkF m 42 #[.val (.ref a1), .val (.int (0 : Int32)), .val (.int (1 : Int32)), .val (.long q), .second, .val (.ref b104)] [(.ref b104), (.ref b143), (.ref b143)])) rfl (by rw [hml]; rfl) (Steps.refl _) (a := b143) (argsL := [(.ref b104)]) (rest := [(.ref b143)]) (lenOf pd_0 rfl) rfl (by show 2 * 0 + _ ≤ _; exact Nat.le_of_eq rfl) (hb hby d4_42) (fun _ _ => ⟨rfl, e143, (by decide : 2 + 0 ≤ _), (by decide : 4 + 0 ≤ _)⟩)
  dsimp only [Pt.U, Pt.locs, Pt.cells, Pt.slots] at X156 l156 y156 z156 st156 hQ156
  subst l156 y156 z156
  obtain ⟨rfl, Nq156, Kq156, FA156⟩ := hQ156
  have f157 := Nat.le_trans f145 Kq156.1
  have f158 := f146.trans Kq156 (allS (Or.inr sz144) all0)
  have f159 := f147.keep Kq156
  have f160 := f148.keep Kq156 (own_nin ne_a1_b143)
  have f161 := f149.keep Kq156 (own_nin ne_t1_b143)
  have f162 := f150.keep Kq156
  have f163 := f151.keep Kq156 (own_nin ne_b104_b143)
  have f164 := f152.keep Kq156
  have f165 := A143.keep Kq156
  have N156 := Fr.app N134 Nq156
  have K166 : ∀ t, Steps p.tables e below (T156.setTop (mkF m 45 #[.val (.ref a1), .val (.int (0 : Int32)), .val (.int (1 : Int32)), .val (.long q), .second, .val (.ref b104)] [(.ref b143)])) t → Steps p.tables e below (s₁.setTop (entryFrame m #[(.ref a1), (.int (0 : Int32)), (.int (1 : Int32)), (.long q)] 6)) t := fun t kt => K155 t (st156.trans kt)
  obtain ⟨fs, hr, hrun, hended, hW, hsame⟩ := X156.leave (v := some (.ref b143)) (fun h => by rw [Bd.returns] at h; cases h) (hlocks := hlk)
  refine ⟨_, _, K166 _ ?_, hrun, hended, _, _, rfl, ?_, ⟨_, rfl⟩, hW, hsame.mono (by decide) (by decide)⟩
  · exact retOut X156 hx Bd.returns rfl (Or.inr (Or.inr (Or.inr (Or.inr ⟨rfl, rfl, rfl⟩)))) (hb hby d4_45) hr
  · show QrmM0 Z q x0 x1 x2 h0 n0 _ T156.heap _
    exact ⟨_, _, _, rfl, ⟨f165, FA156, f163, f164⟩, N156, f158⟩
theorem ef_rmM2 (m : MethodId) (x0 : Addr) (x1 : Int32) (x2 : Int32) (x3 : Int64) : entryFrame m #[(.ref x0), (.int x1), (.int x2), (.long x3)] 6 = mkF m 0 #[.val (.ref x0), .val (.int x1), .val (.int x2), .val (.long x3), .second, .unset] [] := by first | (simp [entryFrame, mkF, argsToLocals, Value.category]; done) | rfl
def QrmM2 (Z : State) (q x0 x1 x2 : Int64) (h0 : Heap) (n0 : Nat) (v : Option Value) (h : Heap) (L : List Loc) : Prop := ∃ (b t : Addr) (kk : ClassId), v = some (.ref b) ∧ (Exa Z h b "com/example/tranchery/tranchery/Cents" ∧ Fld Z h b "com/example/tranchery/tranchery/Cents" "amounts" "[J" (.ref t) ∧ Arv Z h t kk .long (3 : Int32) [(.long (x0 + q)), (.long x1), (.long (x2 - q))] (.long (0 : Int64)) ∧ Exa Z h t "[J") ∧ Fr n0 L ∧ Keep h0 h []
set_option maxRecDepth 65536 in
set_option maxHeartbeats 40000000 in
theorem rmM2 (l : Launch) (Z : State) (a0 : Array Value) (hw : ∀ d ∈ tables_1, d.before a0 Z = true) (ws : List Jvm.Cond) (a1 t1 : Addr) (k1 : ClassId) (q x0 x1 x2 : Int64) (h0 : Heap) (n0 : Nat) (Z0 : n0 ≤ h0.size) (E1 : Exa Z h0 a1 "com/example/tranchery/tranchery/Cents") (F1 : Fld Z h0 a1 "com/example/tranchery/tranchery/Cents" "amounts" "[J" (.ref t1)) (V1 : Arv Z h0 t1 k1 .long (3 : Int32) [(.long x0), (.long x1), (.long x2)] (.long (0 : Int64))) (B1 : Exa Z h0 t1 "[J") (hs : Jvm.Free.XT.fits64 (x2.toInt - q.toInt)) (ha : Jvm.Free.XT.fits64 (x0.toInt + q.toInt)) :
    MetFree l (⟨"com/example/tranchery/tranchery/Cents", "moved", "(IIJ)Lcom/example/tranchery/tranchery/Cents;"⟩ : MethodName) (head1 (Jvm.Cond.code (⟨"com/example/tranchery/tranchery/Cents", "moved", "(IIJ)Lcom/example/tranchery/tranchery/Cents;"⟩ : MethodName) prog_5_method_12_code 6 (some (.object "com/example/tranchery/tranchery/Cents")) :: ws) ({ frames := 2, cells := 2, slots := 4, locals := 26 } : Room)) (fun a U => a = #[(.ref a1), (.int (2 : Int32)), (.int (0 : Int32)), (.long q)] ∧ Z.Warmed39 U.vm ∧ U.heap = h0) (fun _ _ _ _ _ => True) (fun _ U o U' => ∃ v L, o = .returned v ∧ QrmM2 Z q x0 x1 x2 h0 n0 v U'.heap L ∧ FrameEnd U o U' L ({ frames := 2, cells := 2, slots := 4, locals := 26 } : Room).cells ({ frames := 2, cells := 2, slots := 4, locals := 26 } : Room).slots) := by
  refine MetFree.of_bodySF (plainFor_of_name pn_2) hisR ?_
  intro p e s m args below meth c s₁ Bd hml0 hP hK
  obtain ⟨rfl, hZ, hh⟩ := hP
  have hx := Bd.exec
  have hlk : meth.locks = false := BodyLoose.notSynchronized Bd
  have hby := Bd.bytes
  have hml : c.maxLocals = 6 := hml0
  have hown : s.vm.findClass "com/example/tranchery/tranchery/Cents" = some m.cls := findClass_of_methodNamed Bd.named
  have hnm := (name_of_methodNamed Bd.named Bd.method).1
  have X0 : Stand p l e ({ frames := 2, cells := 2, slots := 4, locals := 26 } : Room) s m #[(.ref a1), (.int (2 : Int32)), (.int (0 : Int32)), (.long q)] below meth c s₁ [] 0 0 := Stand.of_body Bd
  have e0 : s₁.heap = h0 := by rw [← hh, Bd.state]; rfl
  have N0 := Fr.nil n0
  have K0 : ∀ t, Steps p.tables e below (s₁.setTop (mkF m 0 #[.val (.ref a1), .val (.int (2 : Int32)), .val (.int (0 : Int32)), .val (.long q), .second, .unset] [])) t → Steps p.tables e below (s₁.setTop (entryFrame m #[(.ref a1), (.int (2 : Int32)), (.int (0 : Int32)), (.long q)] 6)) t := fun t k => castTop (ef_rmM2 m a1 (2 : Int32) (0 : Int32) q) k
  have KK0 : Keep h0 h0 [] := Keep.refl _ _
  
  have K101 : ∀ t, Steps p.tables e below (s₁.setTop (mkF m 1 #[.val (.ref a1), .val (.int (2 : Int32)), .val (.int (0 : Int32)), .val (.long q), .second, .unset] [(.ref a1)])) t → Steps p.tables e below (s₁.setTop (entryFrame m #[(.ref a1), (.int (2 : Int32)), (.int (0 : Int32)), (.long q)] 6)) t := by
    intro t kt
    refine K0 t ?_
    show Steps p.tables e below (s₁.setTop (mkF m 0 #[.val (.ref a1), .val (.int (2 : Int32)), .val (.int (0 : Int32)), .val (.long q), .second, .unset] [])) _
    refine XS.aloadN X0.here hx rfl (hb hby d4_0) rfl rfl ?_
    exact kt
  obtain ⟨T102, X102, e102, st102⟩ := getF X0 hx hZ hown (host := "") (Or.inl (hw _ (List.mem_of_getElem? (i := 13) rfl))) Via.refl e0 F1 (g := (mkF m 1 #[.val (.ref a1), .val (.int (2 : Int32)), .val (.int (0 : Int32)), .val (.long q), .second, .unset] [(.ref a1)])) rfl rfl (hb hby d4_1)
  have K103 : ∀ t, Steps p.tables e below (T102.setTop (mkF m 4 #[.val (.ref a1), .val (.int (2 : Int32)), .val (.int (0 : Int32)), .val (.long q), .second, .unset] [(.ref t1)])) t → Steps p.tables e below (s₁.setTop (entryFrame m #[(.ref a1), (.int (2 : Int32)), (.int (0 : Int32)), (.long q)] 6)) t := fun t kt => K101 t (st102 t kt)
  obtain ⟨T104, h104, X104, e104, E104, A104, B104, st104⟩ := cloneH X102 hx hZ hown (hw _ (List.mem_of_getElem? (i := 20) rfl)) (hw _ (List.mem_of_getElem? (i := 21) rfl)) (hw _ (List.mem_of_getElem? (i := 25) rfl)) (hw _ (List.mem_of_getElem? (i := 23) rfl)) (hw _ (List.mem_of_getElem? (i := 24) rfl)) (hw _ (List.mem_of_getElem? (i := 26) rfl)) e102 V1.arh B1 (g := (mkF m 4 #[.val (.ref a1), .val (.int (2 : Int32)), .val (.int (0 : Int32)), .val (.long q), .second, .unset] [(.ref t1)])) rfl (by rw [hml]; rfl) rfl (hb hby d4_4) (by decide) (W := 0) (by show 2 * 0 + _ ≤ _; exact Nat.le_of_eq rfl) (by decide) (cap := 3) (by decide) (by decide) (by decide)
  obtain ⟨b104, g104⟩ : ∃ z, z = h0.size := ⟨_, rfl⟩
  rw [← g104] at A104 B104 st104
  have ne_a1_b104 : a1 ≠ b104 := by rw [g104]; exact Nat.ne_of_lt E1.lt
  have ne_t1_b104 : t1 ≠ b104 := by rw [g104]; exact Nat.ne_of_lt V1.lt
  have sz105 : h0.size ≤ b104 := Nat.le_trans KK0.1 (Nat.le_of_eq g104.symm)
  have g_b104 : n0 ≤ b104 := Nat.le_trans Z0 (Nat.le_of_eq g104.symm)
  have f106 := Nat.le_trans Z0 E104.1
  have f107 := KK0.ext E104
  have f108 := E1.ext E104
  have f109 := F1.ext E104
  have f110 := V1.ext E104
  have f111 := B1.ext E104
  have V104 : Arv Z h104 b104 k1 .long (3 : Int32) [(.long x0), (.long x1), (.long x2)] (.long (0 : Int64)) := A104
  have K112 : ∀ t, Steps p.tables e below (T104.setTop (mkF m 7 #[.val (.ref a1), .val (.int (2 : Int32)), .val (.int (0 : Int32)), .val (.long q), .second, .unset] [(.ref b104)])) t → Steps p.tables e below (s₁.setTop (entryFrame m #[(.ref a1), (.int (2 : Int32)), (.int (0 : Int32)), (.long q)] 6)) t := fun t kt => K103 t (st104 t kt)
  obtain ⟨T113, X113, e113, st113⟩ := castY X104 hx hZ hown (hw _ (List.mem_of_getElem? (i := 27) rfl)) e104 (Ins.self B104) (g := (mkF m 7 #[.val (.ref a1), .val (.int (2 : Int32)), .val (.int (0 : Int32)), .val (.long q), .second, .unset] [(.ref b104)])) rfl rfl (hb hby d4_7)
  have K114 : ∀ t, Steps p.tables e below (T113.setTop (mkF m 10 #[.val (.ref a1), .val (.int (2 : Int32)), .val (.int (0 : Int32)), .val (.long q), .second, .unset] [(.ref b104)])) t → Steps p.tables e below (s₁.setTop (entryFrame m #[(.ref a1), (.int (2 : Int32)), (.int (0 : Int32)), (.long q)] 6)) t := fun t kt => K112 t (st113 t kt)
  have K115 : ∀ t, Steps p.tables e below (T113.setTop (mkF m 18 #[.val (.ref a1), .val (.int (2 : Int32)), .val (.int (0 : Int32)), .val (.long q), .second, .val (.ref b104)] [(.int (2 : Int32)), (.ref b104), (.int (2 : Int32)), (.ref b104)])) t → Steps p.tables e below (s₁.setTop (entryFrame m #[(.ref a1), (.int (2 : Int32)), (.int (0 : Int32)), (.long q)] 6)) t := by
    intro t kt
    refine K114 t ?_
    show Steps p.tables e below (T113.setTop (mkF m 10 #[.val (.ref a1), .val (.int (2 : Int32)), .val (.int (0 : Int32)), .val (.long q), .second, .unset] [(.ref b104)])) _
    refine XS.astore X113.here hx rfl (hb hby d4_10) rfl rfl (l' := #[.val (.ref a1), .val (.int (2 : Int32)), .val (.int (0 : Int32)), .val (.long q), .second, .val (.ref b104)]) rfl ?_
    show Steps p.tables e below (T113.setTop (mkF m 12 #[.val (.ref a1), .val (.int (2 : Int32)), .val (.int (0 : Int32)), .val (.long q), .second, .val (.ref b104)] [])) _
    refine XS.aload X113.here hx rfl (hb hby d4_12) rfl rfl ?_
    show Steps p.tables e below (T113.setTop (mkF m 14 #[.val (.ref a1), .val (.int (2 : Int32)), .val (.int (0 : Int32)), .val (.long q), .second, .val (.ref b104)] [(.ref b104)])) _
    refine XS.iloadN X113.here hx rfl (hb hby d4_14) rfl ?_
    show Steps p.tables e below (T113.setTop (mkF m 15 #[.val (.ref a1), .val (.int (2 : Int32)), .val (.int (0 : Int32)), .val (.long q), .second, .val (.ref b104)] [(.int (2 : Int32)), (.ref b104)])) _
    refine XS.aload X113.here hx rfl (hb hby d4_15) rfl rfl ?_
    show Steps p.tables e below (T113.setTop (mkF m 17 #[.val (.ref a1), .val (.int (2 : Int32)), .val (.int (0 : Int32)), .val (.long q), .second, .val (.ref b104)] [(.ref b104), (.int (2 : Int32)), (.ref b104)])) _
    refine XS.iloadN X113.here hx rfl (hb hby d4_17) rfl ?_
    exact kt
  obtain ⟨cl116, Ar116, q116, S116, M116, H116, G116⟩ := id V104
  have hin116 : ¬ ((2 : Int32) < 0 ∨ cl116.slots.size ≤ ((2 : Int32)).toNatClampNeg) := inb_of S116 ⟨by decide, by decide⟩
  have hat116 : cl116.slots[((2 : Int32)).toNatClampNeg]? = some (.long x2) := H116 2 (by rw [S116]; decide)
  have K117 : ∀ t, Steps p.tables e below (T113.setTop (mkF m 20 #[.val (.ref a1), .val (.int (2 : Int32)), .val (.int (0 : Int32)), .val (.long q), .second, .val (.ref b104)] [(.long q), (.long x2), (.int (2 : Int32)), (.ref b104)])) t → Steps p.tables e below (s₁.setTop (entryFrame m #[(.ref a1), (.int (2 : Int32)), (.int (0 : Int32)), (.long q)] 6)) t := by
    intro t kt
    refine K115 t ?_
    show Steps p.tables e below (T113.setTop (mkF m 18 #[.val (.ref a1), .val (.int (2 : Int32)), .val (.int (0 : Int32)), .val (.long q), .second, .val (.ref b104)] [(.int (2 : Int32)), (.ref b104), (.int (2 : Int32)), (.ref b104)])) _
    refine X113.laload hx (j := (2 : Int32)) (v := (.long x2)) (by rw [e113]; exact Ar116.1) (State.isArrayOf_alike hZ.alike Ar116.2.1) Ar116.2.2 hin116 hat116 (g := (mkF m 18 #[.val (.ref a1), .val (.int (2 : Int32)), .val (.int (0 : Int32)), .val (.long q), .second, .val (.ref b104)] [(.int (2 : Int32)), (.ref b104), (.int (2 : Int32)), (.ref b104)])) rfl rfl (hb hby d4_18) _ ?_
    show Steps p.tables e below (T113.setTop (mkF m 19 #[.val (.ref a1), .val (.int (2 : Int32)), .val (.int (0 : Int32)), .val (.long q), .second, .val (.ref b104)] [(.long x2), (.int (2 : Int32)), (.ref b104)])) _
    refine XS.lloadN X113.here hx rfl (hb hby d4_19) rfl ?_
    exact kt
  obtain ⟨_, _, ⟨T118, L118, k118, n118⟩, -, X118, ⟨Lc118, hQ118, l118, y118, z118⟩, st118⟩ := Jvm.LawKit.callS X113 hx (y := (⟨"java/lang/Math", "subtractExact", "(JJ)J"⟩ : MethodName)) hown (mvT hZ (hw _ (List.mem_of_getElem? (i := 29) rfl))) (mvT hZ (hw _ (List.mem_of_getElem? (i := 30) rfl))) (mvT hZ (hw _ (List.mem_of_getElem? (i := 31) rfl))) (mvT hZ (hw _ (List.mem_of_getElem? (i := 32) rfl))) (by decide) (backOf (W := 2) (rmSX l Z a0 hw [] x2 q h104 n0 f106 hs) hZ (hw _ (List.mem_of_getElem? (i := 32) rfl)) (hw _ (List.mem_of_getElem? (i := 31) rfl)) (by decide) (by decide)) (g := (mkF m 20 #[.val (.ref a1), .val (.int (2 : Int32)), .val (.int (0 : Int32)), .val (.long q), .second, .val (.ref b104)] [(.long q), (.long x2), (.int (2 : Int32)), (.ref b104)])) rfl (by rw [hml]; rfl) (argsL := [(.long x2), (.long q)]) (rest := [(.int (2 : Int32)), (.ref b104)]) (lenOf pd_1 rfl) rfl (by show 2 * 0 + _ ≤ _; exact Nat.le_of_eq rfl) (hb hby d4_20) (fun _ _ => ⟨rfl, e113, (by decide : 1 + 0 ≤ _), (by decide : 3 + 0 ≤ _)⟩)
  dsimp only [Pt.U, Pt.locs, Pt.cells, Pt.slots] at X118 l118 y118 z118 st118 hQ118
  subst l118 y118 z118
  obtain ⟨rfl, Nq118, e118⟩ := hQ118
  have N118 := Fr.app N0 Nq118
  have K119 : ∀ t, Steps p.tables e below (T118.setTop (mkF m 23 #[.val (.ref a1), .val (.int (2 : Int32)), .val (.int (0 : Int32)), .val (.long q), .second, .val (.ref b104)] [(.long (x2 - q)), (.int (2 : Int32)), (.ref b104)])) t → Steps p.tables e below (s₁.setTop (entryFrame m #[(.ref a1), (.int (2 : Int32)), (.int (0 : Int32)), (.long q)] 6)) t := fun t kt => K117 t (st118 t kt)
  obtain ⟨cl120, Ar120, q120, S120, M120, H120, G120⟩ := id V104
  have hin120 : ¬ ((2 : Int32) < 0 ∨ cl120.slots.size ≤ ((2 : Int32)).toNatClampNeg) := inb_of S120 ⟨by decide, by decide⟩
  obtain ⟨T120, h120, X120, e120, W120, st120⟩ := stJ X118 hx hZ e118 Ar120 (j := (2 : Int32)) hin120 (g := (mkF m 23 #[.val (.ref a1), .val (.int (2 : Int32)), .val (.int (0 : Int32)), .val (.long q), .second, .val (.ref b104)] [(.long (x2 - q)), (.int (2 : Int32)), (.ref b104)])) rfl rfl (hb hby d4_23)
  have f121 := Nat.le_trans f106 (Nat.le_of_eq W120.size.symm)
  have f122 := f107.wr W120 (Or.inr sz105)
  have f123 := f108.wr W120
  have f124 := f109.other W120 (Or.inl ne_a1_b104)
  have f125 := f110.other W120 ne_t1_b104
  have f126 := f111.wr W120
  have f127 := B104.wr W120
  have V120 : Arv Z h120 b104 k1 .long (3 : Int32) [(.long x0), (.long x1), (.long (x2 - q))] (.long (0 : Int64)) := Arv.set Ar120 q120 S120 M120 H120 G120 rfl W120 2 rfl (Nat.le_of_ble_eq_true rfl)
  have N120 := Fr.snoc X120 N118 g_b104
  have K128 : ∀ t, Steps p.tables e below (T120.setTop (mkF m 24 #[.val (.ref a1), .val (.int (2 : Int32)), .val (.int (0 : Int32)), .val (.long q), .second, .val (.ref b104)] [])) t → Steps p.tables e below (s₁.setTop (entryFrame m #[(.ref a1), (.int (2 : Int32)), (.int (0 : Int32)), (.long q)] 6)) t := fun t kt => K119 t (st120 t kt)
  have K129 : ∀ t, Steps p.tables e below (T120.setTop (mkF m 30 #[.val (.ref a1), .val (.int (2 : Int32)), .val (.int (0 : Int32)), .val (.long q), .second, .val (.ref b104)] [(.int (0 : Int32)), (.ref b104), (.int (0 : Int32)), (.ref b104)])) t → Steps p.tables e below (s₁.setTop (entryFrame m #[(.ref a1), (.int (2 : Int32)), (.int (0 : Int32)), (.long q)] 6)) t := by
    intro t kt
    refine K128 t ?_
    show Steps p.tables e below (T120.setTop (mkF m 24 #[.val (.ref a1), .val (.int (2 : Int32)), .val (.int (0 : Int32)), .val (.long q), .second, .val (.ref b104)] [])) _
    refine XS.aload X120.here hx rfl (hb hby d4_24) rfl rfl ?_
    show Steps p.tables e below (T120.setTop (mkF m 26 #[.val (.ref a1), .val (.int (2 : Int32)), .val (.int (0 : Int32)), .val (.long q), .second, .val (.ref b104)] [(.ref b104)])) _
    refine XS.iloadN X120.here hx rfl (hb hby d4_26) rfl ?_
    show Steps p.tables e below (T120.setTop (mkF m 27 #[.val (.ref a1), .val (.int (2 : Int32)), .val (.int (0 : Int32)), .val (.long q), .second, .val (.ref b104)] [(.int (0 : Int32)), (.ref b104)])) _
    refine XS.aload X120.here hx rfl (hb hby d4_27) rfl rfl ?_
    show Steps p.tables e below (T120.setTop (mkF m 29 #[.val (.ref a1), .val (.int (2 : Int32)), .val (.int (0 : Int32)), .val (.long q), .second, .val (.ref b104)] [(.ref b104), (.int (0 : Int32)), (.ref b104)])) _
    refine XS.iloadN X120.here hx rfl (hb hby d4_29) rfl ?_
    exact kt
  obtain ⟨cl130, Ar130, q130, S130, M130, H130, G130⟩ := id V120
  have hin130 : ¬ ((0 : Int32) < 0 ∨ cl130.slots.size ≤ ((0 : Int32)).toNatClampNeg) := inb_of S130 ⟨by decide, by decide⟩
  have hat130 : cl130.slots[((0 : Int32)).toNatClampNeg]? = some (.long x0) := H130 0 (by rw [S130]; decide)
  have K131 : ∀ t, Steps p.tables e below (T120.setTop (mkF m 32 #[.val (.ref a1), .val (.int (2 : Int32)), .val (.int (0 : Int32)), .val (.long q), .second, .val (.ref b104)] [(.long q), (.long x0), (.int (0 : Int32)), (.ref b104)])) t → Steps p.tables e below (s₁.setTop (entryFrame m #[(.ref a1), (.int (2 : Int32)), (.int (0 : Int32)), (.long q)] 6)) t := by
    intro t kt
    refine K129 t ?_
    show Steps p.tables e below (T120.setTop (mkF m 30 #[.val (.ref a1), .val (.int (2 : Int32)), .val (.int (0 : Int32)), .val (.long q), .second, .val (.ref b104)] [(.int (0 : Int32)), (.ref b104), (.int (0 : Int32)), (.ref b104)])) _
    refine X120.laload hx (j := (0 : Int32)) (v := (.long x0)) (by rw [e120]; exact Ar130.1) (State.isArrayOf_alike hZ.alike Ar130.2.1) Ar130.2.2 hin130 hat130 (g := (mkF m 30 #[.val (.ref a1), .val (.int (2 : Int32)), .val (.int (0 : Int32)), .val (.long q), .second, .val (.ref b104)] [(.int (0 : Int32)), (.ref b104), (.int (0 : Int32)), (.ref b104)])) rfl rfl (hb hby d4_30) _ ?_
    show Steps p.tables e below (T120.setTop (mkF m 31 #[.val (.ref a1), .val (.int (2 : Int32)), .val (.int (0 : Int32)), .val (.long q), .second, .val (.ref b104)] [(.long x0), (.int (0 : Int32)), (.ref b104)])) _
    refine XS.lloadN X120.here hx rfl (hb hby d4_31) rfl ?_
    exact kt
  obtain ⟨_, _, ⟨T132, L132, k132, n132⟩, -, X132, ⟨Lc132, hQ132, l132, y132, z132⟩, st132⟩ := Jvm.LawKit.callS X120 hx (y := (⟨"java/lang/Math", "addExact", "(JJ)J"⟩ : MethodName)) hown (mvT hZ (hw _ (List.mem_of_getElem? (i := 33) rfl))) (mvT hZ (hw _ (List.mem_of_getElem? (i := 34) rfl))) (mvT hZ (hw _ (List.mem_of_getElem? (i := 31) rfl))) (mvT hZ (hw _ (List.mem_of_getElem? (i := 35) rfl))) (by decide) (backOf (W := 2) (rmAX l Z a0 hw [] x0 q h120 n0 f121 ha) hZ (hw _ (List.mem_of_getElem? (i := 35) rfl)) (hw _ (List.mem_of_getElem? (i := 31) rfl)) (by decide) (by decide)) (g := (mkF m 32 #[.val (.ref a1), .val (.int (2 : Int32)), .val (.int (0 : Int32)), .val (.long q), .second, .val (.ref b104)] [(.long q), (.long x0), (.int (0 : Int32)), (.ref b104)])) rfl (by rw [hml]; rfl) (argsL := [(.long x0), (.long q)]) (rest := [(.int (0 : Int32)), (.ref b104)]) (lenOf pd_1 rfl) rfl (by show 2 * 0 + _ ≤ _; exact Nat.le_of_eq rfl) (hb hby d4_32) (fun _ _ => ⟨rfl, e120, (by decide : 1 + 0 ≤ _), (by decide : 3 + 0 ≤ _)⟩)
  dsimp only [Pt.U, Pt.locs, Pt.cells, Pt.slots] at X132 l132 y132 z132 st132 hQ132
  subst l132 y132 z132
  obtain ⟨rfl, Nq132, e132⟩ := hQ132
  have N132 := Fr.app N120 Nq132
  have K133 : ∀ t, Steps p.tables e below (T132.setTop (mkF m 35 #[.val (.ref a1), .val (.int (2 : Int32)), .val (.int (0 : Int32)), .val (.long q), .second, .val (.ref b104)] [(.long (x0 + q)), (.int (0 : Int32)), (.ref b104)])) t → Steps p.tables e below (s₁.setTop (entryFrame m #[(.ref a1), (.int (2 : Int32)), (.int (0 : Int32)), (.long q)] 6)) t := fun t kt => K131 t (st132 t kt)
  obtain ⟨cl134, Ar134, q134, S134, M134, H134, G134⟩ := id V120
  have hin134 : ¬ ((0 : Int32) < 0 ∨ cl134.slots.size ≤ ((0 : Int32)).toNatClampNeg) := inb_of S134 ⟨by decide, by decide⟩
  obtain ⟨T134, h134, X134, e134, W134, st134⟩ := stJ X132 hx hZ e132 Ar134 (j := (0 : Int32)) hin134 (g := (mkF m 35 #[.val (.ref a1), .val (.int (2 : Int32)), .val (.int (0 : Int32)), .val (.long q), .second, .val (.ref b104)] [(.long (x0 + q)), (.int (0 : Int32)), (.ref b104)])) rfl rfl (hb hby d4_35)
  have f135 := Nat.le_trans f121 (Nat.le_of_eq W134.size.symm)
  have f136 := f122.wr W134 (Or.inr sz105)
  have f137 := f123.wr W134
  have f138 := f124.other W134 (Or.inl ne_a1_b104)
  have f139 := f125.other W134 ne_t1_b104
  have f140 := f126.wr W134
  have f141 := f127.wr W134
  have V134 : Arv Z h134 b104 k1 .long (3 : Int32) [(.long (x0 + q)), (.long x1), (.long (x2 - q))] (.long (0 : Int64)) := Arv.set Ar134 q134 S134 M134 H134 G134 rfl W134 0 rfl (Nat.le_of_ble_eq_true rfl)
  have N134 := Fr.snoc X134 N132 g_b104
  have K142 : ∀ t, Steps p.tables e below (T134.setTop (mkF m 36 #[.val (.ref a1), .val (.int (2 : Int32)), .val (.int (0 : Int32)), .val (.long q), .second, .val (.ref b104)] [])) t → Steps p.tables e below (s₁.setTop (entryFrame m #[(.ref a1), (.int (2 : Int32)), (.int (0 : Int32)), (.long q)] 6)) t := fun t kt => K133 t (st134 t kt)
  obtain ⟨T143, h143, X143, e143, E143, A143, D143, U143, st143⟩ := newO X134 hx hZ hown (hw _ (List.mem_of_getElem? (i := 4) rfl)) (hw _ (List.mem_of_getElem? (i := 5) rfl)) (hw _ (List.mem_of_getElem? (i := 2) rfl)) e134 (g := (mkF m 36 #[.val (.ref a1), .val (.int (2 : Int32)), .val (.int (0 : Int32)), .val (.long q), .second, .val (.ref b104)] [])) rfl (hb hby d4_36) (by decide) (by decide)
  obtain ⟨b143, g143⟩ : ∃ z, z = h134.size := ⟨_, rfl⟩
  rw [← g143] at A143 D143 U143 st143
  have ne_a1_b143 : a1 ≠ b143 := by rw [g143]; exact Nat.ne_of_lt f137.lt
  have ne_t1_b143 : t1 ≠ b143 := by rw [g143]; exact Nat.ne_of_lt f139.lt
  have ne_b104_b143 : b104 ≠ b143 := by rw [g143]; exact Nat.ne_of_lt V134.lt
  have sz144 : h0.size ≤ b143 := Nat.le_trans f136.1 (Nat.le_of_eq g143.symm)
  have g_b143 : n0 ≤ b143 := Nat.le_trans f135 (Nat.le_of_eq g143.symm)
  have f145 := Nat.le_trans f135 E143.1
  have f146 := f136.ext E143
  have f147 := f137.ext E143
  have f148 := f138.ext E143
  have f149 := f139.ext E143
  have f150 := f140.ext E143
  have f151 := V134.ext E143
  have f152 := f141.ext E143
  have F153 : Fld Z h143 b143 "com/example/tranchery/tranchery/Cents" "amounts" "[J" .null := D143 (Or.inr (hw _ (List.mem_of_getElem? (i := 14) rfl))) (ty := (.array .long)) (by decide)
  have K154 : ∀ t, Steps p.tables e below (T143.setTop (mkF m 39 #[.val (.ref a1), .val (.int (2 : Int32)), .val (.int (0 : Int32)), .val (.long q), .second, .val (.ref b104)] [(.ref b143)])) t → Steps p.tables e below (s₁.setTop (entryFrame m #[(.ref a1), (.int (2 : Int32)), (.int (0 : Int32)), (.long q)] 6)) t := fun t kt => K142 t (st143 t kt)
  have K155 : ∀ t, Steps p.tables e below (T143.setTop (mkF m 42 #[.val (.ref a1), .val (.int (2 : Int32)), .val (.int (0 : Int32)), .val (.long q), .second, .val (.ref b104)] [(.ref b104), (.ref b143), (.ref b143)])) t → Steps p.tables e below (s₁.setTop (entryFrame m #[(.ref a1), (.int (2 : Int32)), (.int (0 : Int32)), (.long q)] 6)) t := by
    intro t kt
    refine K154 t ?_
    show Steps p.tables e below (T143.setTop (mkF m 39 #[.val (.ref a1), .val (.int (2 : Int32)), .val (.int (0 : Int32)), .val (.long q), .second, .val (.ref b104)] [(.ref b143)])) _
    refine XS.dup X143.here hx rfl (hb hby d4_39) rfl rfl ?_
    show Steps p.tables e below (T143.setTop (mkF m 40 #[.val (.ref a1), .val (.int (2 : Int32)), .val (.int (0 : Int32)), .val (.long q), .second, .val (.ref b104)] [(.ref b143), (.ref b143)])) _
    refine XS.aload X143.here hx rfl (hb hby d4_40) rfl rfl ?_
    exact kt
  obtain ⟨_, _, ⟨T156, L156, k156, n156⟩, -, X156, ⟨Lc156, hQ156, l156, y156, z156⟩, st156⟩ := X143.specialBack hx (y := (⟨"com/example/tranchery/tranchery/Cents", "<init>", "([J)V"⟩ : MethodName)) rfl hown (mvT hZ (hw _ (List.mem_of_getElem? (i := 7) rfl))) (mvT hZ (hw _ (List.mem_of_getElem? (i := 8) rfl))) (mvT hZ (hw _ (List.mem_of_getElem? (i := 9) rfl))) (by decide) (backOf (W := 1) (rmCI l Z a0 hw [] b143 b104 h143 n0 f145 A143 F153 g_b143) hZ (hw _ (List.mem_of_getElem? (i := 9) rfl)) (hw _ (List.mem_of_getElem? (i := 2) rfl)) (by decide) (by decide)) (g := (mkF m 42 #[.val (.ref a1), .val (.int (2 : Int32)), .val (.int (0 : Int32)), .val (.long q), .second, .val (.ref b104)] [(.ref b104), (.ref b143), (.ref b143)])) rfl (by rw [hml]; rfl) (Steps.refl _) (a := b143) (argsL := [(.ref b104)]) (rest := [(.ref b143)]) (lenOf pd_0 rfl) rfl (by show 2 * 0 + _ ≤ _; exact Nat.le_of_eq rfl) (hb hby d4_42) (fun _ _ => ⟨rfl, e143, (by decide : 2 + 0 ≤ _), (by decide : 4 + 0 ≤ _)⟩)
  dsimp only [Pt.U, Pt.locs, Pt.cells, Pt.slots] at X156 l156 y156 z156 st156 hQ156
  subst l156 y156 z156
  obtain ⟨rfl, Nq156, Kq156, FA156⟩ := hQ156
  have f157 := Nat.le_trans f145 Kq156.1
  have f158 := f146.trans Kq156 (allS (Or.inr sz144) all0)
  have f159 := f147.keep Kq156
  have f160 := f148.keep Kq156 (own_nin ne_a1_b143)
  have f161 := f149.keep Kq156 (own_nin ne_t1_b143)
  have f162 := f150.keep Kq156
  have f163 := f151.keep Kq156 (own_nin ne_b104_b143)
  have f164 := f152.keep Kq156
  have f165 := A143.keep Kq156
  have N156 := Fr.app N134 Nq156
  have K166 : ∀ t, Steps p.tables e below (T156.setTop (mkF m 45 #[.val (.ref a1), .val (.int (2 : Int32)), .val (.int (0 : Int32)), .val (.long q), .second, .val (.ref b104)] [(.ref b143)])) t → Steps p.tables e below (s₁.setTop (entryFrame m #[(.ref a1), (.int (2 : Int32)), (.int (0 : Int32)), (.long q)] 6)) t := fun t kt => K155 t (st156.trans kt)
  obtain ⟨fs, hr, hrun, hended, hW, hsame⟩ := X156.leave (v := some (.ref b143)) (fun h => by rw [Bd.returns] at h; cases h) (hlocks := hlk)
  refine ⟨_, _, K166 _ ?_, hrun, hended, _, _, rfl, ?_, ⟨_, rfl⟩, hW, hsame.mono (by decide) (by decide)⟩
  · exact retOut X156 hx Bd.returns rfl (Or.inr (Or.inr (Or.inr (Or.inr ⟨rfl, rfl, rfl⟩)))) (hb hby d4_45) hr
  · show QrmM2 Z q x0 x1 x2 h0 n0 _ T156.heap _
    exact ⟨_, _, _, rfl, ⟨f165, FA156, f163, f164⟩, N156, f158⟩
theorem ef_rmBI (m : MethodId) (x0 : Addr) (x1 : Value) (x2 : Int64) (x3 : Int32) (x4 : Int32) (r1 : x1.isRef = true) : entryFrame m #[(.ref x0), x1, (.long x2), (.int x3), (.int x4)] 6 = mkF m 0 #[.val (.ref x0), .val x1, .val (.long x2), .second, .val (.int x3), .val (.int x4)] [] := by
  rcases ref_cases r1 with rfl | ⟨_, rfl⟩ <;> first | (simp [entryFrame, mkF, argsToLocals, Value.category]; done) | rfl
def QrmBI (Z : State) (a1 : Addr) (v2 : Value) (q3 : Int64) (p4 : Int32) (h0 : Heap) (n0 : Nat) (v : Option Value) (h : Heap) (L : List Loc) : Prop := v = none ∧ Fr n0 L ∧ Keep h0 h [a1] ∧ BDp Z h a1 q3 p4 v2
set_option maxRecDepth 65536 in
set_option maxHeartbeats 40000000 in
theorem rmBI (l : Launch) (Z : State) (a0 : Array Value) (hw : ∀ d ∈ tables_1, d.before a0 Z = true) (ws : List Jvm.Cond) (a1 : Addr) (v2 : Value) (q3 : Int64) (p4 p5 : Int32) (h0 : Heap) (n0 : Nat) (Z0 : n0 ≤ h0.size) (r2 : v2.isRef = true) (E1 : Exa Z h0 a1 "java/math/BigDecimal") (F1 : Fld Z h0 a1 "java/math/BigDecimal" "scale" "I" (.int (0 : Int32))) (F2 : Fld Z h0 a1 "java/math/BigDecimal" "precision" "I" (.int (0 : Int32))) (F3 : Fld Z h0 a1 "java/math/BigDecimal" "intCompact" "J" (.long (0 : Int64))) (F4 : Fld Z h0 a1 "java/math/BigDecimal" "intVal" "Ljava/math/BigInteger;" .null) (g1 : n0 ≤ a1) :
    MetFree l (⟨"java/math/BigDecimal", "<init>", "(Ljava/math/BigInteger;JII)V"⟩ : MethodName) (head1 (Jvm.Cond.code (⟨"java/math/BigDecimal", "<init>", "(Ljava/math/BigInteger;JII)V"⟩ : MethodName) jdk_17_method_1_code 6 none :: ws) ({ frames := 2, cells := 0, slots := 0, locals := 24 } : Room)) (fun a U => a = #[(.ref a1), v2, (.long q3), (.int p4), (.int p5)] ∧ Z.Warmed39 U.vm ∧ U.heap = h0) (fun _ _ _ _ _ => True) (fun _ U o U' => ∃ v L, o = .returned v ∧ QrmBI Z a1 v2 q3 p4 h0 n0 v U'.heap L ∧ FrameEnd U o U' L ({ frames := 2, cells := 0, slots := 0, locals := 24 } : Room).cells ({ frames := 2, cells := 0, slots := 0, locals := 24 } : Room).slots) := by
  refine MetFree.of_bodySF (plainFor_of_name pn_3) hisR ?_
  intro p e s m args below meth c s₁ Bd hml0 hP hK
  obtain ⟨rfl, hZ, hh⟩ := hP
  have hx := Bd.exec
  have hlk : meth.locks = false := BodyLoose.notSynchronized Bd
  have hby := Bd.bytes
  have hml : c.maxLocals = 6 := hml0
  have hown : s.vm.findClass "java/math/BigDecimal" = some m.cls := findClass_of_methodNamed Bd.named
  have hnm := (name_of_methodNamed Bd.named Bd.method).1
  have X0 : Stand p l e ({ frames := 2, cells := 0, slots := 0, locals := 24 } : Room) s m #[(.ref a1), v2, (.long q3), (.int p4), (.int p5)] below meth c s₁ [] 0 0 := Stand.of_body Bd
  have e0 : s₁.heap = h0 := by rw [← hh, Bd.state]; rfl
  have N0 := Fr.nil n0
  have K0 : ∀ t, Steps p.tables e below (s₁.setTop (mkF m 0 #[.val (.ref a1), .val v2, .val (.long q3), .second, .val (.int p4), .val (.int p5)] [])) t → Steps p.tables e below (s₁.setTop (entryFrame m #[(.ref a1), v2, (.long q3), (.int p4), (.int p5)] 6)) t := fun t k => castTop (ef_rmBI m a1 v2 q3 p4 p5 r2) k
  have KK0 : Keep h0 h0 [a1] := Keep.refl _ _
  
  have K101 : ∀ t, Steps p.tables e below (s₁.setTop (mkF m 1 #[.val (.ref a1), .val v2, .val (.long q3), .second, .val (.int p4), .val (.int p5)] [(.ref a1)])) t → Steps p.tables e below (s₁.setTop (entryFrame m #[(.ref a1), v2, (.long q3), (.int p4), (.int p5)] 6)) t := by
    intro t kt
    refine K0 t ?_
    show Steps p.tables e below (s₁.setTop (mkF m 0 #[.val (.ref a1), .val v2, .val (.long q3), .second, .val (.int p4), .val (.int p5)] [])) _
    refine XS.aloadN X0.here hx rfl (hb hby d13_0) rfl rfl ?_
    exact kt
  obtain ⟨_, _, ⟨T102, L102, k102, n102⟩, -, X102, ⟨Lc102, hQ102, l102, y102, z102⟩, st102⟩ := X0.specialBack hx (y := (⟨"java/lang/Number", "<init>", "()V"⟩ : MethodName)) rfl hown (mvT hZ (hw _ (List.mem_of_getElem? (i := 82) rfl))) (mvT hZ (hw _ (List.mem_of_getElem? (i := 83) rfl))) (mvT hZ (hw _ (List.mem_of_getElem? (i := 87) rfl))) (by decide) (backOf (W := 0) (rmNI l Z a0 hw [] a1 h0 n0 Z0) hZ (hw _ (List.mem_of_getElem? (i := 87) rfl)) (hw _ (List.mem_of_getElem? (i := 86) rfl)) (by decide) (by decide)) (g := (mkF m 1 #[.val (.ref a1), .val v2, .val (.long q3), .second, .val (.int p4), .val (.int p5)] [(.ref a1)])) rfl (by rw [hml]; rfl) (Steps.refl _) (a := a1) (argsL := []) (rest := []) (lenOf pd_2 rfl) rfl (by show 2 * 0 + _ ≤ _; exact Nat.le_of_eq rfl) (hb hby d13_1) (fun _ _ => ⟨rfl, e0, (by decide : 0 + 0 ≤ _), (by decide : 0 + 0 ≤ _)⟩)
  dsimp only [Pt.U, Pt.locs, Pt.cells, Pt.slots] at X102 l102 y102 z102 st102 hQ102
  subst l102 y102 z102
  obtain ⟨rfl, Nq102, e102⟩ := hQ102
  have N102 := Fr.app N0 Nq102
  have K103 : ∀ t, Steps p.tables e below (T102.setTop (mkF m 4 #[.val (.ref a1), .val v2, .val (.long q3), .second, .val (.int p4), .val (.int p5)] [])) t → Steps p.tables e below (s₁.setTop (entryFrame m #[(.ref a1), v2, (.long q3), (.int p4), (.int p5)] 6)) t := fun t kt => K101 t (st102.trans kt)
  have K104 : ∀ t, Steps p.tables e below (T102.setTop (mkF m 7 #[.val (.ref a1), .val v2, .val (.long q3), .second, .val (.int p4), .val (.int p5)] [(.int p4), (.ref a1)])) t → Steps p.tables e below (s₁.setTop (entryFrame m #[(.ref a1), v2, (.long q3), (.int p4), (.int p5)] 6)) t := by
    intro t kt
    refine K103 t ?_
    show Steps p.tables e below (T102.setTop (mkF m 4 #[.val (.ref a1), .val v2, .val (.long q3), .second, .val (.int p4), .val (.int p5)] [])) _
    refine XS.aloadN X102.here hx rfl (hb hby d13_4) rfl rfl ?_
    show Steps p.tables e below (T102.setTop (mkF m 5 #[.val (.ref a1), .val v2, .val (.long q3), .second, .val (.int p4), .val (.int p5)] [(.ref a1)])) _
    refine XS.iload X102.here hx rfl (hb hby d13_5) rfl ?_
    exact kt
  obtain ⟨T105, h105, X105, e105, W105, st105⟩ := putF X102 hx hZ hown (host := "") (Or.inl (hw _ (List.mem_of_getElem? (i := 89) rfl))) Via.refl e102 F1 E1 (Or.inr ⟨(hw _ (List.mem_of_getElem? (i := 90) rfl)), rfl, hnm⟩) (hw _ (List.mem_of_getElem? (i := 76) rfl)) (ty := .int) (by decide) rfl rfl (g := (mkF m 7 #[.val (.ref a1), .val v2, .val (.long q3), .second, .val (.int p4), .val (.int p5)] [(.int p4), (.ref a1)])) rfl rfl (hb hby d13_7)
  have f106 := Nat.le_trans Z0 (Nat.le_of_eq W105.size.symm)
  have f107 := KK0.wr W105 (Or.inl (List.mem_of_getElem? (i := 0) rfl))
  have f108 := E1.wr W105
  have f109 := F2.other W105 (Or.inr (slot_ne (Or.inl (hw _ (List.mem_of_getElem? (i := 92) rfl))) (Or.inr (hw _ (List.mem_of_getElem? (i := 90) rfl))) (by decide) (t := .int) (t' := .int) (by decide) (by decide)))
  have f110 := F3.other W105 (Or.inr (slot_ne (Or.inr (hw _ (List.mem_of_getElem? (i := 94) rfl))) (Or.inr (hw _ (List.mem_of_getElem? (i := 90) rfl))) (by decide) (t := .long) (t' := .int) (by decide) (by decide)))
  have f111 := F4.other W105 (Or.inr (slot_ne (Or.inr (hw _ (List.mem_of_getElem? (i := 96) rfl))) (Or.inr (hw _ (List.mem_of_getElem? (i := 90) rfl))) (by decide) (t := (.object "java/math/BigInteger")) (t' := .int) (by decide) (by decide)))
  have F105 := F1.same W105
  have N105 := Fr.snoc X105 N102 g1
  have K112 : ∀ t, Steps p.tables e below (T105.setTop (mkF m 10 #[.val (.ref a1), .val v2, .val (.long q3), .second, .val (.int p4), .val (.int p5)] [])) t → Steps p.tables e below (s₁.setTop (entryFrame m #[(.ref a1), v2, (.long q3), (.int p4), (.int p5)] 6)) t := fun t kt => K104 t (st105 t kt)
  have K113 : ∀ t, Steps p.tables e below (T105.setTop (mkF m 13 #[.val (.ref a1), .val v2, .val (.long q3), .second, .val (.int p4), .val (.int p5)] [(.int p5), (.ref a1)])) t → Steps p.tables e below (s₁.setTop (entryFrame m #[(.ref a1), v2, (.long q3), (.int p4), (.int p5)] 6)) t := by
    intro t kt
    refine K112 t ?_
    show Steps p.tables e below (T105.setTop (mkF m 10 #[.val (.ref a1), .val v2, .val (.long q3), .second, .val (.int p4), .val (.int p5)] [])) _
    refine XS.aloadN X105.here hx rfl (hb hby d13_10) rfl rfl ?_
    show Steps p.tables e below (T105.setTop (mkF m 11 #[.val (.ref a1), .val v2, .val (.long q3), .second, .val (.int p4), .val (.int p5)] [(.ref a1)])) _
    refine XS.iload X105.here hx rfl (hb hby d13_11) rfl ?_
    exact kt
  obtain ⟨T114, h114, X114, e114, W114, st114⟩ := putF X105 hx hZ hown (host := "") (Or.inl (hw _ (List.mem_of_getElem? (i := 91) rfl))) Via.refl e105 f109 f108 (Or.inl (hw _ (List.mem_of_getElem? (i := 92) rfl))) (hw _ (List.mem_of_getElem? (i := 76) rfl)) (ty := .int) (by decide) rfl rfl (g := (mkF m 13 #[.val (.ref a1), .val v2, .val (.long q3), .second, .val (.int p4), .val (.int p5)] [(.int p5), (.ref a1)])) rfl rfl (hb hby d13_13)
  have f115 := Nat.le_trans f106 (Nat.le_of_eq W114.size.symm)
  have f116 := f107.wr W114 (Or.inl (List.mem_of_getElem? (i := 0) rfl))
  have f117 := f108.wr W114
  have f118 := F105.other W114 (Or.inr (slot_ne (Or.inr (hw _ (List.mem_of_getElem? (i := 90) rfl))) (Or.inl (hw _ (List.mem_of_getElem? (i := 92) rfl))) (by decide) (t := .int) (t' := .int) (by decide) (by decide)))
  have f119 := f110.other W114 (Or.inr (slot_ne (Or.inr (hw _ (List.mem_of_getElem? (i := 94) rfl))) (Or.inl (hw _ (List.mem_of_getElem? (i := 92) rfl))) (by decide) (t := .long) (t' := .int) (by decide) (by decide)))
  have f120 := f111.other W114 (Or.inr (slot_ne (Or.inr (hw _ (List.mem_of_getElem? (i := 96) rfl))) (Or.inl (hw _ (List.mem_of_getElem? (i := 92) rfl))) (by decide) (t := (.object "java/math/BigInteger")) (t' := .int) (by decide) (by decide)))
  have F114 := f109.same W114
  have N114 := Fr.snoc X114 N105 g1
  have K121 : ∀ t, Steps p.tables e below (T114.setTop (mkF m 16 #[.val (.ref a1), .val v2, .val (.long q3), .second, .val (.int p4), .val (.int p5)] [])) t → Steps p.tables e below (s₁.setTop (entryFrame m #[(.ref a1), v2, (.long q3), (.int p4), (.int p5)] 6)) t := fun t kt => K113 t (st114 t kt)
  have K122 : ∀ t, Steps p.tables e below (T114.setTop (mkF m 18 #[.val (.ref a1), .val v2, .val (.long q3), .second, .val (.int p4), .val (.int p5)] [(.long q3), (.ref a1)])) t → Steps p.tables e below (s₁.setTop (entryFrame m #[(.ref a1), v2, (.long q3), (.int p4), (.int p5)] 6)) t := by
    intro t kt
    refine K121 t ?_
    show Steps p.tables e below (T114.setTop (mkF m 16 #[.val (.ref a1), .val v2, .val (.long q3), .second, .val (.int p4), .val (.int p5)] [])) _
    refine XS.aloadN X114.here hx rfl (hb hby d13_16) rfl rfl ?_
    show Steps p.tables e below (T114.setTop (mkF m 17 #[.val (.ref a1), .val v2, .val (.long q3), .second, .val (.int p4), .val (.int p5)] [(.ref a1)])) _
    refine XS.lloadN X114.here hx rfl (hb hby d13_17) rfl ?_
    exact kt
  obtain ⟨T123, h123, X123, e123, W123, st123⟩ := putF X114 hx hZ hown (host := "") (Or.inl (hw _ (List.mem_of_getElem? (i := 93) rfl))) Via.refl e114 f119 f117 (Or.inr ⟨(hw _ (List.mem_of_getElem? (i := 94) rfl)), rfl, hnm⟩) (hw _ (List.mem_of_getElem? (i := 76) rfl)) (ty := .long) (by decide) rfl rfl (g := (mkF m 18 #[.val (.ref a1), .val v2, .val (.long q3), .second, .val (.int p4), .val (.int p5)] [(.long q3), (.ref a1)])) rfl rfl (hb hby d13_18)
  have f124 := Nat.le_trans f115 (Nat.le_of_eq W123.size.symm)
  have f125 := f116.wr W123 (Or.inl (List.mem_of_getElem? (i := 0) rfl))
  have f126 := f117.wr W123
  have f127 := f118.other W123 (Or.inr (slot_ne (Or.inr (hw _ (List.mem_of_getElem? (i := 90) rfl))) (Or.inr (hw _ (List.mem_of_getElem? (i := 94) rfl))) (by decide) (t := .int) (t' := .long) (by decide) (by decide)))
  have f128 := F114.other W123 (Or.inr (slot_ne (Or.inl (hw _ (List.mem_of_getElem? (i := 92) rfl))) (Or.inr (hw _ (List.mem_of_getElem? (i := 94) rfl))) (by decide) (t := .int) (t' := .long) (by decide) (by decide)))
  have f129 := f120.other W123 (Or.inr (slot_ne (Or.inr (hw _ (List.mem_of_getElem? (i := 96) rfl))) (Or.inr (hw _ (List.mem_of_getElem? (i := 94) rfl))) (by decide) (t := (.object "java/math/BigInteger")) (t' := .long) (by decide) (by decide)))
  have F123 := f119.same W123
  have N123 := Fr.snoc X123 N114 g1
  have K130 : ∀ t, Steps p.tables e below (T123.setTop (mkF m 21 #[.val (.ref a1), .val v2, .val (.long q3), .second, .val (.int p4), .val (.int p5)] [])) t → Steps p.tables e below (s₁.setTop (entryFrame m #[(.ref a1), v2, (.long q3), (.int p4), (.int p5)] 6)) t := fun t kt => K122 t (st123 t kt)
  have K131 : ∀ t, Steps p.tables e below (T123.setTop (mkF m 23 #[.val (.ref a1), .val v2, .val (.long q3), .second, .val (.int p4), .val (.int p5)] [v2, (.ref a1)])) t → Steps p.tables e below (s₁.setTop (entryFrame m #[(.ref a1), v2, (.long q3), (.int p4), (.int p5)] 6)) t := by
    intro t kt
    refine K130 t ?_
    show Steps p.tables e below (T123.setTop (mkF m 21 #[.val (.ref a1), .val v2, .val (.long q3), .second, .val (.int p4), .val (.int p5)] [])) _
    refine XS.aloadN X123.here hx rfl (hb hby d13_21) rfl rfl ?_
    show Steps p.tables e below (T123.setTop (mkF m 22 #[.val (.ref a1), .val v2, .val (.long q3), .second, .val (.int p4), .val (.int p5)] [(.ref a1)])) _
    refine XS.aloadN X123.here hx rfl (hb hby d13_22) rfl r2 ?_
    exact kt
  obtain ⟨T132, h132, X132, e132, W132, st132⟩ := putF X123 hx hZ hown (host := "") (Or.inl (hw _ (List.mem_of_getElem? (i := 95) rfl))) Via.refl e123 f129 f126 (Or.inr ⟨(hw _ (List.mem_of_getElem? (i := 96) rfl)), rfl, hnm⟩) (hw _ (List.mem_of_getElem? (i := 76) rfl)) (ty := (.object "java/math/BigInteger")) (by decide) (own_narR rfl r2) (own_fitsR rfl r2) (g := (mkF m 23 #[.val (.ref a1), .val v2, .val (.long q3), .second, .val (.int p4), .val (.int p5)] [v2, (.ref a1)])) rfl rfl (hb hby d13_23)
  have f133 := Nat.le_trans f124 (Nat.le_of_eq W132.size.symm)
  have f134 := f125.wr W132 (Or.inl (List.mem_of_getElem? (i := 0) rfl))
  have f135 := f126.wr W132
  have f136 := f127.other W132 (Or.inr (slot_ne (Or.inr (hw _ (List.mem_of_getElem? (i := 90) rfl))) (Or.inr (hw _ (List.mem_of_getElem? (i := 96) rfl))) (by decide) (t := .int) (t' := (.object "java/math/BigInteger")) (by decide) (by decide)))
  have f137 := f128.other W132 (Or.inr (slot_ne (Or.inl (hw _ (List.mem_of_getElem? (i := 92) rfl))) (Or.inr (hw _ (List.mem_of_getElem? (i := 96) rfl))) (by decide) (t := .int) (t' := (.object "java/math/BigInteger")) (by decide) (by decide)))
  have f138 := F123.other W132 (Or.inr (slot_ne (Or.inr (hw _ (List.mem_of_getElem? (i := 94) rfl))) (Or.inr (hw _ (List.mem_of_getElem? (i := 96) rfl))) (by decide) (t := .long) (t' := (.object "java/math/BigInteger")) (by decide) (by decide)))
  have F132 := f129.same W132
  have N132 := Fr.snoc X132 N123 g1
  have K139 : ∀ t, Steps p.tables e below (T132.setTop (mkF m 26 #[.val (.ref a1), .val v2, .val (.long q3), .second, .val (.int p4), .val (.int p5)] [])) t → Steps p.tables e below (s₁.setTop (entryFrame m #[(.ref a1), v2, (.long q3), (.int p4), (.int p5)] 6)) t := fun t kt => K131 t (st132 t kt)
  obtain ⟨fs, hr, hrun, hended, hW, hsame⟩ := X132.leave (v := none) (fun _ => rfl) (hlocks := hlk)
  refine ⟨_, _, K139 _ ?_, hrun, hended, _, _, rfl, ?_, ⟨_, rfl⟩, hW, hsame.mono (by decide) (by decide)⟩
  · exact X132.returnOut hx Bd.returns (hb hby d13_26) hr
  · show QrmBI Z a1 v2 q3 p4 h0 n0 _ T132.heap _
    rw [e132]
    exact ⟨rfl, N132, f134, f135, f138, f136, F132⟩
theorem ef_rmZV (m : MethodId) (x0 : Int32) : entryFrame m #[(.int x0)] 1 = mkF m 0 #[.val (.int x0)] [] := by first | (simp [entryFrame, mkF, argsToLocals, Value.category]; done) | rfl
def QrmZV (z2 : Addr) (h0 : Heap) (n0 : Nat) (v : Option Value) (h : Heap) (L : List Loc) : Prop := v = some (.ref z2) ∧ Fr n0 L ∧ h = h0
set_option maxRecDepth 65536 in
set_option maxHeartbeats 40000000 in
theorem rmZV (l : Launch) (Z : State) (a0 : Array Value) (hw : ∀ d ∈ tables_1, d.before a0 Z = true) (ws : List Jvm.Cond) (az z2 : Addr) (cz : Cell) (h0 : Heap) (n0 : Nat) (Z0 : n0 ≤ h0.size) (ZZ : ZSc Z h0 az z2 cz) :
    MetFree l (⟨"java/math/BigDecimal", "zeroValueOf", "(I)Ljava/math/BigDecimal;"⟩ : MethodName) (head1 (Jvm.Cond.code (⟨"java/math/BigDecimal", "zeroValueOf", "(I)Ljava/math/BigDecimal;"⟩ : MethodName) jdk_17_method_24_code 1 (some (.object "java/math/BigDecimal")) :: ws) ({ frames := 0, cells := 0, slots := 0, locals := 0 } : Room)) (fun a U => a = #[(.int (2 : Int32))] ∧ Z.Warmed39 U.vm ∧ U.heap = h0) (fun _ _ _ _ _ => True) (fun _ U o U' => ∃ v L, o = .returned v ∧ QrmZV z2 h0 n0 v U'.heap L ∧ FrameEnd U o U' L ({ frames := 0, cells := 0, slots := 0, locals := 0 } : Room).cells ({ frames := 0, cells := 0, slots := 0, locals := 0 } : Room).slots) := by
  refine MetFree.of_bodySF (plainFor_of_name pn_3) hisR ?_
  intro p e s m args below meth c s₁ Bd hml0 hP hK
  obtain ⟨rfl, hZ, hh⟩ := hP
  have hx := Bd.exec
  have hlk : meth.locks = false := BodyLoose.notSynchronized Bd
  have hby := Bd.bytes
  have hml : c.maxLocals = 1 := hml0
  have hown : s.vm.findClass "java/math/BigDecimal" = some m.cls := findClass_of_methodNamed Bd.named
  have hnm := (name_of_methodNamed Bd.named Bd.method).1
  have X0 : Stand p l e ({ frames := 0, cells := 0, slots := 0, locals := 0 } : Room) s m #[(.int (2 : Int32))] below meth c s₁ [] 0 0 := Stand.of_body Bd
  have e0 : s₁.heap = h0 := by rw [← hh, Bd.state]; rfl
  have N0 := Fr.nil n0
  have K0 : ∀ t, Steps p.tables e below (s₁.setTop (mkF m 0 #[.val (.int (2 : Int32))] [])) t → Steps p.tables e below (s₁.setTop (entryFrame m #[(.int (2 : Int32))] 1)) t := fun t k => castTop (ef_rmZV m (2 : Int32)) k
  have KK0 : Keep h0 h0 [] := Keep.refl _ _
  obtain ⟨zS, zA, zL, zE, -⟩ := ZZ
  have zSz : cz.slots.size = (16 : Int32).toNatClampNeg := zL
  have K101 : ∀ t, Steps p.tables e below (s₁.setTop (mkF m 5 #[.val (.int (2 : Int32))] [(.int (2 : Int32))])) t → Steps p.tables e below (s₁.setTop (entryFrame m #[(.int (2 : Int32))] 1)) t := by
    intro t kt
    refine K0 t ?_
    show Steps p.tables e below (s₁.setTop (mkF m 0 #[.val (.int (2 : Int32))] [])) _
    refine XS.iloadN X0.here hx rfl (hb hby d17_0) rfl ?_
    show Steps p.tables e below (s₁.setTop (mkF m 1 #[.val (.int (2 : Int32))] [(.int (2 : Int32))])) _
    refine XS.ifNo X0.here hx rfl (hb hby d17_1) rfl ((if0 _ _).trans (flt (by decide : ¬ ((2 : Int32) < (0 : Int32)))).1) ?_
    show Steps p.tables e below (s₁.setTop (mkF m 4 #[.val (.int (2 : Int32))] [])) _
    refine XS.iloadN X0.here hx rfl (hb hby d17_4) rfl ?_
    exact kt
  obtain ⟨T102, X102, e102, st102⟩ := getS2 X0 hx hZ hown (host := "") (Or.inl (hw _ (List.mem_of_getElem? (i := 119) rfl))) Via.refl e0 zS (g := (mkF m 5 #[.val (.int (2 : Int32))] [(.int (2 : Int32))])) rfl (hb hby d17_5)
  have K103 : ∀ t, Steps p.tables e below (T102.setTop (mkF m 8 #[.val (.int (2 : Int32))] [(.ref az), (.int (2 : Int32))])) t → Steps p.tables e below (s₁.setTop (entryFrame m #[(.int (2 : Int32))] 1)) t := fun t kt => K101 t (st102 t kt)
  have K104 : ∀ t, Steps p.tables e below (T102.setTop (mkF m 12 #[.val (.int (2 : Int32))] [])) t → Steps p.tables e below (s₁.setTop (entryFrame m #[(.int (2 : Int32))] 1)) t := by
    intro t kt
    refine K103 t ?_
    show Steps p.tables e below (T102.setTop (mkF m 8 #[.val (.int (2 : Int32))] [(.ref az), (.int (2 : Int32))])) _
    refine X102.arraylength hx (by rw [e102]; exact zA.1) (State.isArrayOf_alike hZ.alike zA.2.1) (g := (mkF m 8 #[.val (.int (2 : Int32))] [(.ref az), (.int (2 : Int32))])) rfl rfl (hb hby d17_8) _ ?_
    rw [len_of zSz (by decide)]
    show Steps p.tables e below (T102.setTop (mkF m 9 #[.val (.int (2 : Int32))] [(.int (16 : Int32)), (.int (2 : Int32))])) _
    refine XS.icmpNo X102.here hx rfl (hb hby d17_9) rfl (tlt (by decide : (2 : Int32) < (16 : Int32))).2.1 ?_
    exact kt
  obtain ⟨T105, X105, e105, st105⟩ := getS2 X102 hx hZ hown (host := "") (Or.inl (hw _ (List.mem_of_getElem? (i := 119) rfl))) Via.refl e102 zS (g := (mkF m 12 #[.val (.int (2 : Int32))] [])) rfl (hb hby d17_12)
  have K106 : ∀ t, Steps p.tables e below (T105.setTop (mkF m 15 #[.val (.int (2 : Int32))] [(.ref az)])) t → Steps p.tables e below (s₁.setTop (entryFrame m #[(.int (2 : Int32))] 1)) t := fun t kt => K104 t (st105 t kt)
  have K107 : ∀ t, Steps p.tables e below (T105.setTop (mkF m 16 #[.val (.int (2 : Int32))] [(.int (2 : Int32)), (.ref az)])) t → Steps p.tables e below (s₁.setTop (entryFrame m #[(.int (2 : Int32))] 1)) t := by
    intro t kt
    refine K106 t ?_
    show Steps p.tables e below (T105.setTop (mkF m 15 #[.val (.int (2 : Int32))] [(.ref az)])) _
    refine XS.iloadN X105.here hx rfl (hb hby d17_15) rfl ?_
    exact kt
  have hin : ¬ ((2 : Int32) < 0 ∨ cz.slots.size ≤ ((2 : Int32)).toNatClampNeg) := inb_of zSz ⟨by decide, by decide⟩
  have K108 : ∀ t, Steps p.tables e below (T105.setTop (mkF m 17 #[.val (.int (2 : Int32))] [(.ref z2)])) t → Steps p.tables e below (s₁.setTop (entryFrame m #[(.int (2 : Int32))] 1)) t := by
    intro t kt
    refine K107 t ?_
    show Steps p.tables e below (T105.setTop (mkF m 16 #[.val (.int (2 : Int32))] [(.int (2 : Int32)), (.ref az)])) _
    refine X105.aaload hx (j := (2 : Int32)) (v := (.ref z2)) (by rw [e105]; exact zA.1) (State.isArrayOf_alike hZ.alike zA.2.1) rfl zA.2.2 hin zE (g := (mkF m 16 #[.val (.int (2 : Int32))] [(.int (2 : Int32)), (.ref az)])) rfl rfl (hb hby d17_16) _ ?_
    exact kt
  obtain ⟨fs, hr, hrun, hended, hW, hsame⟩ := X105.leave (v := some (.ref z2)) (fun h => by rw [Bd.returns] at h; cases h) (hlocks := hlk)
  refine ⟨_, _, K108 _ ?_, hrun, hended, _, _, rfl, ?_, ⟨_, rfl⟩, hW, hsame.mono (by decide) (by decide)⟩
  · exact retOut X105 hx Bd.returns rfl (Or.inr (Or.inr (Or.inr (Or.inr ⟨rfl, rfl, rfl⟩)))) (hb hby d17_17) hr
  · show QrmZV z2 h0 n0 _ T105.heap _
    rw [e105]
    exact ⟨rfl, N0, rfl⟩
theorem ef_rmVO (m : MethodId) (x0 : Int64) (x1 : Int32) : entryFrame m #[(.long x0), (.int x1)] 3 = mkF m 0 #[.val (.long x0), .second, .val (.int x1)] [] := by first | (simp [entryFrame, mkF, argsToLocals, Value.category]; done) | rfl
def QrmVO (Z : State) (q1 : Int64) (h0 : Heap) (n0 : Nat) (v : Option Value) (h : Heap) (L : List Loc) : Prop := ∃ (b : Addr) (iv : Value), v = some (.ref b) ∧ iv.isRef = true ∧ BDp Z h b q1 (2 : Int32) iv ∧ Fr n0 L ∧ Keep h0 h []
set_option maxRecDepth 65536 in
set_option maxHeartbeats 40000000 in
theorem rmVO (l : Launch) (Z : State) (a0 : Array Value) (hw : ∀ d ∈ tables_1, d.before a0 Z = true) (ws : List Jvm.Cond) (q1 : Int64) (az z2 : Addr) (cz : Cell) (h0 : Heap) (n0 : Nat) (Z0 : n0 ≤ h0.size) (hq : ¬ q1 = (-9223372036854775808 : Int64)) (ZZ : ZSc Z h0 az z2 cz) :
    MetFree l (⟨"java/math/BigDecimal", "valueOf", "(JI)Ljava/math/BigDecimal;"⟩ : MethodName) (head1 (Jvm.Cond.code (⟨"java/math/BigDecimal", "valueOf", "(JI)Ljava/math/BigDecimal;"⟩ : MethodName) jdk_17_method_20_code 3 (some (.object "java/math/BigDecimal")) :: ws) ({ frames := 3, cells := 1, slots := 5, locals := 42 } : Room)) (fun a U => a = #[(.long q1), (.int (2 : Int32))] ∧ Z.Warmed39 U.vm ∧ U.heap = h0) (fun _ _ _ _ _ => True) (fun _ U o U' => ∃ v L, o = .returned v ∧ QrmVO Z q1 h0 n0 v U'.heap L ∧ FrameEnd U o U' L ({ frames := 3, cells := 1, slots := 5, locals := 42 } : Room).cells ({ frames := 3, cells := 1, slots := 5, locals := 42 } : Room).slots) := by
  refine MetFree.of_bodySF (plainFor_of_name pn_3) hisR ?_
  intro p e s m args below meth c s₁ Bd hml0 hP hK
  obtain ⟨rfl, hZ, hh⟩ := hP
  have hx := Bd.exec
  have hlk : meth.locks = false := BodyLoose.notSynchronized Bd
  have hby := Bd.bytes
  have hml : c.maxLocals = 3 := hml0
  have hown : s.vm.findClass "java/math/BigDecimal" = some m.cls := findClass_of_methodNamed Bd.named
  have hnm := (name_of_methodNamed Bd.named Bd.method).1
  have X0 : Stand p l e ({ frames := 3, cells := 1, slots := 5, locals := 42 } : Room) s m #[(.long q1), (.int (2 : Int32))] below meth c s₁ [] 0 0 := Stand.of_body Bd
  have e0 : s₁.heap = h0 := by rw [← hh, Bd.state]; rfl
  have N0 := Fr.nil n0
  have K0 : ∀ t, Steps p.tables e below (s₁.setTop (mkF m 0 #[.val (.long q1), .second, .val (.int (2 : Int32))] [])) t → Steps p.tables e below (s₁.setTop (entryFrame m #[(.long q1), (.int (2 : Int32))] 3)) t := fun t k => castTop (ef_rmVO m q1 (2 : Int32)) k
  have KK0 : Keep h0 h0 [] := Keep.refl _ _
  
  have K101 : ∀ t, Steps p.tables e below (s₁.setTop (mkF m 12 #[.val (.long q1), .second, .val (.int (2 : Int32))] [(.int (lcmpW q1 (0 : Int64)))])) t → Steps p.tables e below (s₁.setTop (entryFrame m #[(.long q1), (.int (2 : Int32))] 3)) t := by
    intro t kt
    refine K0 t ?_
    show Steps p.tables e below (s₁.setTop (mkF m 0 #[.val (.long q1), .second, .val (.int (2 : Int32))] [])) _
    refine XS.iloadN X0.here hx rfl (hb hby d12_0) rfl ?_
    show Steps p.tables e below (s₁.setTop (mkF m 1 #[.val (.long q1), .second, .val (.int (2 : Int32))] [(.int (2 : Int32))])) _
    refine XS.ifYes X0.here hx rfl (pc0 := 1) (pc' := 9) rfl (hb hby d12_1) rfl ((if0 _ _).trans (feq (by decide : ¬ ((2 : Int32) = (0 : Int32)))).2) (by decide) (by decide) ?_
    show Steps p.tables e below (s₁.setTop (mkF m 9 #[.val (.long q1), .second, .val (.int (2 : Int32))] [])) _
    refine XS.lloadN X0.here hx rfl (hb hby d12_9) rfl ?_
    show Steps p.tables e below (s₁.setTop (mkF m 10 #[.val (.long q1), .second, .val (.int (2 : Int32))] [(.long q1)])) _
    refine XS.lconst X0.here hx rfl (hb hby d12_10) ?_
    show Steps p.tables e below (s₁.setTop (mkF m 11 #[.val (.long q1), .second, .val (.int (2 : Int32))] [(.long (0 : Int64)), (.long q1)])) _
    refine XS.lcmp X0.here hx rfl (hb hby d12_11) rfl ?_
    exact kt
  by_cases hc : (lcmpW q1 (0 : Int64)) = (0 : Int32)
  · have K102 : ∀ t, Steps p.tables e below (s₁.setTop (mkF m 15 #[.val (.long q1), .second, .val (.int (2 : Int32))] [])) t → Steps p.tables e below (s₁.setTop (entryFrame m #[(.long q1), (.int (2 : Int32))] 3)) t := by
      intro t kt
      refine K101 t ?_
      show Steps p.tables e below (s₁.setTop (mkF m 12 #[.val (.long q1), .second, .val (.int (2 : Int32))] [(.int (lcmpW q1 (0 : Int64)))])) _
      refine XS.ifNo X0.here hx rfl (hb hby d12_12) rfl ((if0 _ _).trans (teq (hc : (lcmpW q1 (0 : Int64)) = (0 : Int32))).2) ?_
      exact kt
    have h0q : q1 = (0 : Int64) := (lw_eq _ _).mp hc
    have K103 : ∀ t, Steps p.tables e below (s₁.setTop (mkF m 16 #[.val (.long q1), .second, .val (.int (2 : Int32))] [(.int (2 : Int32))])) t → Steps p.tables e below (s₁.setTop (entryFrame m #[(.long q1), (.int (2 : Int32))] 3)) t := by
      intro t kt
      refine K102 t ?_
      show Steps p.tables e below (s₁.setTop (mkF m 15 #[.val (.long q1), .second, .val (.int (2 : Int32))] [])) _
      refine XS.iloadN X0.here hx rfl (hb hby d12_15) rfl ?_
      exact kt
    obtain ⟨_, _, ⟨T104, L104, k104, n104⟩, -, X104, ⟨Lc104, hQ104, l104, y104, z104⟩, st104⟩ := Jvm.LawKit.callS X0 hx (y := (⟨"java/math/BigDecimal", "zeroValueOf", "(I)Ljava/math/BigDecimal;"⟩ : MethodName)) hown (mvT hZ (hw _ (List.mem_of_getElem? (i := 116) rfl))) (mvT hZ (hw _ (List.mem_of_getElem? (i := 117) rfl))) (mvT hZ (hw _ (List.mem_of_getElem? (i := 73) rfl))) (mvT hZ (hw _ (List.mem_of_getElem? (i := 118) rfl))) (by decide) (backOf (W := 0) (rmZV l Z a0 hw [] az z2 cz h0 n0 Z0 ZZ) hZ (hw _ (List.mem_of_getElem? (i := 118) rfl)) (hw _ (List.mem_of_getElem? (i := 73) rfl)) (by decide) (by decide)) (g := (mkF m 16 #[.val (.long q1), .second, .val (.int (2 : Int32))] [(.int (2 : Int32))])) rfl (by rw [hml]; rfl) (argsL := [(.int (2 : Int32))]) (rest := []) (lenOf pd_3 rfl) rfl (by show 2 * 0 + _ ≤ _; exact Nat.le_of_eq rfl) (hb hby d12_16) (fun _ _ => ⟨rfl, e0, (by decide : 0 + 0 ≤ _), (by decide : 0 + 0 ≤ _)⟩)
    dsimp only [Pt.U, Pt.locs, Pt.cells, Pt.slots] at X104 l104 y104 z104 st104 hQ104
    subst l104 y104 z104
    obtain ⟨rfl, Nq104, e104⟩ := hQ104
    have N104 := Fr.app N0 Nq104
    have K105 : ∀ t, Steps p.tables e below (T104.setTop (mkF m 19 #[.val (.long q1), .second, .val (.int (2 : Int32))] [(.ref z2)])) t → Steps p.tables e below (s₁.setTop (entryFrame m #[(.long q1), (.int (2 : Int32))] 3)) t := fun t kt => K103 t (st104 t kt)
    obtain ⟨fs, hr, hrun, hended, hW, hsame⟩ := X104.leave (v := some (.ref z2)) (fun h => by rw [Bd.returns] at h; cases h) (hlocks := hlk)
    refine ⟨_, _, K105 _ ?_, hrun, hended, _, _, rfl, ?_, ⟨_, rfl⟩, hW, hsame.mono (by decide) (by decide)⟩
    · exact retOut X104 hx Bd.returns rfl (Or.inr (Or.inr (Or.inr (Or.inr ⟨rfl, rfl, rfl⟩)))) (hb hby d12_19) hr
    · show QrmVO Z q1 h0 n0 _ T104.heap _
      rw [e104]
      obtain ⟨-, -, -, -, iv, rv, zb⟩ := ZZ; exact ⟨_, iv, rfl, rv, h0q ▸ zb, N104, KK0⟩
  · have K106 : ∀ t, Steps p.tables e below (s₁.setTop (mkF m 20 #[.val (.long q1), .second, .val (.int (2 : Int32))] [])) t → Steps p.tables e below (s₁.setTop (entryFrame m #[(.long q1), (.int (2 : Int32))] 3)) t := by
      intro t kt
      refine K101 t ?_
      show Steps p.tables e below (s₁.setTop (mkF m 12 #[.val (.long q1), .second, .val (.int (2 : Int32))] [(.int (lcmpW q1 (0 : Int64)))])) _
      refine XS.ifYes X0.here hx rfl (pc0 := 12) (pc' := 20) rfl (hb hby d12_12) rfl ((if0 _ _).trans (feq (hc : ¬ ((lcmpW q1 (0 : Int64)) = (0 : Int32)))).2) (by decide) (by decide) ?_
      exact kt
    obtain ⟨T107, h107, X107, e107, E107, A107, D107, U107, st107⟩ := newO X0 hx hZ hown (hw _ (List.mem_of_getElem? (i := 75) rfl)) (hw _ (List.mem_of_getElem? (i := 76) rfl)) (hw _ (List.mem_of_getElem? (i := 73) rfl)) e0 (g := (mkF m 20 #[.val (.long q1), .second, .val (.int (2 : Int32))] [])) rfl (hb hby d12_20) (by decide) (by decide)
    obtain ⟨b107, g107⟩ : ∃ z, z = h0.size := ⟨_, rfl⟩
    rw [← g107] at A107 D107 U107 st107
    have sz108 : h0.size ≤ b107 := Nat.le_trans KK0.1 (Nat.le_of_eq g107.symm)
    have g_b107 : n0 ≤ b107 := Nat.le_trans Z0 (Nat.le_of_eq g107.symm)
    have f109 := Nat.le_trans Z0 E107.1
    have f110 := KK0.ext E107
    have F111 : Fld Z h107 b107 "java/math/BigDecimal" "scale" "I" (.int (0 : Int32)) := D107 (Or.inr (hw _ (List.mem_of_getElem? (i := 90) rfl))) (ty := .int) (by decide)
    have F112 : Fld Z h107 b107 "java/math/BigDecimal" "precision" "I" (.int (0 : Int32)) := D107 (Or.inl (hw _ (List.mem_of_getElem? (i := 92) rfl))) (ty := .int) (by decide)
    have F113 : Fld Z h107 b107 "java/math/BigDecimal" "intCompact" "J" (.long (0 : Int64)) := D107 (Or.inr (hw _ (List.mem_of_getElem? (i := 94) rfl))) (ty := .long) (by decide)
    have F114 : Fld Z h107 b107 "java/math/BigDecimal" "intVal" "Ljava/math/BigInteger;" .null := D107 (Or.inr (hw _ (List.mem_of_getElem? (i := 96) rfl))) (ty := (.object "java/math/BigInteger")) (by decide)
    have K115 : ∀ t, Steps p.tables e below (T107.setTop (mkF m 23 #[.val (.long q1), .second, .val (.int (2 : Int32))] [(.ref b107)])) t → Steps p.tables e below (s₁.setTop (entryFrame m #[(.long q1), (.int (2 : Int32))] 3)) t := fun t kt => K106 t (st107 t kt)
    have K116 : ∀ t, Steps p.tables e below (T107.setTop (mkF m 42 #[.val (.long q1), .second, .val (.int (2 : Int32))] [(.int (0 : Int32)), (.int (2 : Int32)), (.long q1), .null, (.ref b107), (.ref b107)])) t → Steps p.tables e below (s₁.setTop (entryFrame m #[(.long q1), (.int (2 : Int32))] 3)) t := by
      intro t kt
      refine K115 t ?_
      show Steps p.tables e below (T107.setTop (mkF m 23 #[.val (.long q1), .second, .val (.int (2 : Int32))] [(.ref b107)])) _
      refine XS.dup X107.here hx rfl (hb hby d12_23) rfl rfl ?_
      show Steps p.tables e below (T107.setTop (mkF m 24 #[.val (.long q1), .second, .val (.int (2 : Int32))] [(.ref b107), (.ref b107)])) _
      refine XS.lloadN X107.here hx rfl (hb hby d12_24) rfl ?_
      show Steps p.tables e below (T107.setTop (mkF m 25 #[.val (.long q1), .second, .val (.int (2 : Int32))] [(.long q1), (.ref b107), (.ref b107)])) _
      refine X107.ldc2Long hx hown (mvT hZ (hw _ (List.mem_of_getElem? (i := 77) rfl))) (g := (mkF m 25 #[.val (.long q1), .second, .val (.int (2 : Int32))] [(.long q1), (.ref b107), (.ref b107)])) rfl (hb hby d12_25) _ ?_
      show Steps p.tables e below (T107.setTop (mkF m 28 #[.val (.long q1), .second, .val (.int (2 : Int32))] [(.long (-9223372036854775808 : Int64)), (.long q1), (.ref b107), (.ref b107)])) _
      refine XS.lcmp X107.here hx rfl (hb hby d12_28) rfl ?_
      show Steps p.tables e below (T107.setTop (mkF m 29 #[.val (.long q1), .second, .val (.int (2 : Int32))] [(.int (lcmpW q1 (-9223372036854775808 : Int64))), (.ref b107), (.ref b107)])) _
      refine XS.ifYes X107.here hx rfl (pc0 := 29) (pc' := 38) rfl (hb hby d12_29) rfl ((if0 _ _).trans (feq ((fun z => hq ((lw_eq _ _).mp z)) : ¬ ((lcmpW q1 (-9223372036854775808 : Int64)) = (0 : Int32)))).2) (by decide) (by decide) ?_
      show Steps p.tables e below (T107.setTop (mkF m 38 #[.val (.long q1), .second, .val (.int (2 : Int32))] [(.ref b107), (.ref b107)])) _
      refine XS.aconstNull X107.here hx rfl (hb hby d12_38) ?_
      show Steps p.tables e below (T107.setTop (mkF m 39 #[.val (.long q1), .second, .val (.int (2 : Int32))] [.null, (.ref b107), (.ref b107)])) _
      refine XS.lloadN X107.here hx rfl (hb hby d12_39) rfl ?_
      show Steps p.tables e below (T107.setTop (mkF m 40 #[.val (.long q1), .second, .val (.int (2 : Int32))] [(.long q1), .null, (.ref b107), (.ref b107)])) _
      refine XS.iloadN X107.here hx rfl (hb hby d12_40) rfl ?_
      show Steps p.tables e below (T107.setTop (mkF m 41 #[.val (.long q1), .second, .val (.int (2 : Int32))] [(.int (2 : Int32)), (.long q1), .null, (.ref b107), (.ref b107)])) _
      refine XS.iconst X107.here hx rfl (hb hby d12_41) ?_
      exact kt
    obtain ⟨_, _, ⟨T117, L117, k117, n117⟩, -, X117, ⟨Lc117, hQ117, l117, y117, z117⟩, st117⟩ := X107.specialBack hx (y := (⟨"java/math/BigDecimal", "<init>", "(Ljava/math/BigInteger;JII)V"⟩ : MethodName)) rfl hown (mvT hZ (hw _ (List.mem_of_getElem? (i := 78) rfl))) (mvT hZ (hw _ (List.mem_of_getElem? (i := 79) rfl))) (mvT hZ (hw _ (List.mem_of_getElem? (i := 81) rfl))) (by decide) (backOf (W := 1) (rmBI l Z a0 hw [] b107 .null q1 (2 : Int32) (0 : Int32) h107 n0 f109 rfl A107 F111 F112 F113 F114 g_b107) hZ (hw _ (List.mem_of_getElem? (i := 81) rfl)) (hw _ (List.mem_of_getElem? (i := 73) rfl)) (by decide) (by decide)) (g := (mkF m 42 #[.val (.long q1), .second, .val (.int (2 : Int32))] [(.int (0 : Int32)), (.int (2 : Int32)), (.long q1), .null, (.ref b107), (.ref b107)])) rfl (by rw [hml]; rfl) (Steps.refl _) (a := b107) (argsL := [.null, (.long q1), (.int (2 : Int32)), (.int (0 : Int32))]) (rest := [(.ref b107)]) (lenOf pd_4 rfl) rfl (by show 2 * 0 + _ ≤ _; exact Nat.le_of_eq rfl) (hb hby d12_42) (fun _ _ => ⟨rfl, e107, (by decide : 1 + 0 ≤ _), (by decide : 5 + 0 ≤ _)⟩)
    dsimp only [Pt.U, Pt.locs, Pt.cells, Pt.slots] at X117 l117 y117 z117 st117 hQ117
    subst l117 y117 z117
    obtain ⟨rfl, Nq117, Kq117, B117⟩ := hQ117
    have f118 := Nat.le_trans f109 Kq117.1
    have f119 := f110.trans Kq117 (allS (Or.inr sz108) all0)
    have f120 := A107.keep Kq117
    have N117 := Fr.app N0 Nq117
    have K121 : ∀ t, Steps p.tables e below (T117.setTop (mkF m 45 #[.val (.long q1), .second, .val (.int (2 : Int32))] [(.ref b107)])) t → Steps p.tables e below (s₁.setTop (entryFrame m #[(.long q1), (.int (2 : Int32))] 3)) t := fun t kt => K116 t (st117.trans kt)
    obtain ⟨fs, hr, hrun, hended, hW, hsame⟩ := X117.leave (v := some (.ref b107)) (fun h => by rw [Bd.returns] at h; cases h) (hlocks := hlk)
    refine ⟨_, _, K121 _ ?_, hrun, hended, _, _, rfl, ?_, ⟨_, rfl⟩, hW, hsame.mono (by decide) (by decide)⟩
    · exact retOut X117 hx Bd.returns rfl (Or.inr (Or.inr (Or.inr (Or.inr ⟨rfl, rfl, rfl⟩)))) (hb hby d12_45) hr
    · show QrmVO Z q1 h0 n0 _ T117.heap _
      exact ⟨_, .null, rfl, rfl, B117, N117, f119⟩
theorem ef_rmAM0 (m : MethodId) (x0 : Addr) (x1 : Int32) : entryFrame m #[(.ref x0), (.int x1)] 2 = mkF m 0 #[.val (.ref x0), .val (.int x1)] [] := by first | (simp [entryFrame, mkF, argsToLocals, Value.category]; done) | rfl
def QrmAM0 (Z : State) (x : Int64) (h0 : Heap) (n0 : Nat) (v : Option Value) (h : Heap) (L : List Loc) : Prop := ∃ (b : Addr) (iv : Value), v = some (.ref b) ∧ iv.isRef = true ∧ BDp Z h b x (2 : Int32) iv ∧ Fr n0 L ∧ Keep h0 h []
set_option maxRecDepth 65536 in
set_option maxHeartbeats 40000000 in
theorem rmAM0 (l : Launch) (Z : State) (a0 : Array Value) (hw : ∀ d ∈ tables_1, d.before a0 Z = true) (ws : List Jvm.Cond) (a1 t1 : Addr) (k1 : ClassId) (x0 x1 x2 : Int64) (az z2 : Addr) (cz : Cell) (h0 : Heap) (n0 : Nat) (Z0 : n0 ≤ h0.size) (E1 : Exa Z h0 a1 "com/example/tranchery/tranchery/Cents") (F1 : Fld Z h0 a1 "com/example/tranchery/tranchery/Cents" "amounts" "[J" (.ref t1)) (V1 : Arv Z h0 t1 k1 .long (3 : Int32) [(.long x0), (.long x1), (.long x2)] (.long (0 : Int64))) (B1 : Exa Z h0 t1 "[J") (hq : ¬ x0 = (-9223372036854775808 : Int64)) (ZZ : ZSc Z h0 az z2 cz) :
    MetFree l (⟨"com/example/tranchery/tranchery/Cents", "amount", "(I)Ljava/math/BigDecimal;"⟩ : MethodName) (head1 (Jvm.Cond.code (⟨"com/example/tranchery/tranchery/Cents", "amount", "(I)Ljava/math/BigDecimal;"⟩ : MethodName) prog_5_method_7_code 2 (some (.object "java/math/BigDecimal")) :: ws) ({ frames := 4, cells := 1, slots := 5, locals := 56 } : Room)) (fun a U => a = #[(.ref a1), (.int (0 : Int32))] ∧ Z.Warmed39 U.vm ∧ U.heap = h0) (fun _ _ _ _ _ => True) (fun _ U o U' => ∃ v L, o = .returned v ∧ QrmAM0 Z x0 h0 n0 v U'.heap L ∧ FrameEnd U o U' L ({ frames := 4, cells := 1, slots := 5, locals := 56 } : Room).cells ({ frames := 4, cells := 1, slots := 5, locals := 56 } : Room).slots) := by
  refine MetFree.of_bodySF (plainFor_of_name pn_2) hisR ?_
  intro p e s m args below meth c s₁ Bd hml0 hP hK
  obtain ⟨rfl, hZ, hh⟩ := hP
  have hx := Bd.exec
  have hlk : meth.locks = false := BodyLoose.notSynchronized Bd
  have hby := Bd.bytes
  have hml : c.maxLocals = 2 := hml0
  have hown : s.vm.findClass "com/example/tranchery/tranchery/Cents" = some m.cls := findClass_of_methodNamed Bd.named
  have hnm := (name_of_methodNamed Bd.named Bd.method).1
  have X0 : Stand p l e ({ frames := 4, cells := 1, slots := 5, locals := 56 } : Room) s m #[(.ref a1), (.int (0 : Int32))] below meth c s₁ [] 0 0 := Stand.of_body Bd
  have e0 : s₁.heap = h0 := by rw [← hh, Bd.state]; rfl
  have N0 := Fr.nil n0
  have K0 : ∀ t, Steps p.tables e below (s₁.setTop (mkF m 0 #[.val (.ref a1), .val (.int (0 : Int32))] [])) t → Steps p.tables e below (s₁.setTop (entryFrame m #[(.ref a1), (.int (0 : Int32))] 2)) t := fun t k => castTop (ef_rmAM0 m a1 (0 : Int32)) k
  have KK0 : Keep h0 h0 [] := Keep.refl _ _
  
  have K101 : ∀ t, Steps p.tables e below (s₁.setTop (mkF m 1 #[.val (.ref a1), .val (.int (0 : Int32))] [(.ref a1)])) t → Steps p.tables e below (s₁.setTop (entryFrame m #[(.ref a1), (.int (0 : Int32))] 2)) t := by
    intro t kt
    refine K0 t ?_
    show Steps p.tables e below (s₁.setTop (mkF m 0 #[.val (.ref a1), .val (.int (0 : Int32))] [])) _
    refine XS.aloadN X0.here hx rfl (hb hby d11_0) rfl rfl ?_
    exact kt
  obtain ⟨T102, X102, e102, st102⟩ := getF X0 hx hZ hown (host := "") (Or.inl (hw _ (List.mem_of_getElem? (i := 13) rfl))) Via.refl e0 F1 (g := (mkF m 1 #[.val (.ref a1), .val (.int (0 : Int32))] [(.ref a1)])) rfl rfl (hb hby d11_1)
  have K103 : ∀ t, Steps p.tables e below (T102.setTop (mkF m 4 #[.val (.ref a1), .val (.int (0 : Int32))] [(.ref t1)])) t → Steps p.tables e below (s₁.setTop (entryFrame m #[(.ref a1), (.int (0 : Int32))] 2)) t := fun t kt => K101 t (st102 t kt)
  have K104 : ∀ t, Steps p.tables e below (T102.setTop (mkF m 5 #[.val (.ref a1), .val (.int (0 : Int32))] [(.int (0 : Int32)), (.ref t1)])) t → Steps p.tables e below (s₁.setTop (entryFrame m #[(.ref a1), (.int (0 : Int32))] 2)) t := by
    intro t kt
    refine K103 t ?_
    show Steps p.tables e below (T102.setTop (mkF m 4 #[.val (.ref a1), .val (.int (0 : Int32))] [(.ref t1)])) _
    refine XS.iloadN X102.here hx rfl (hb hby d11_4) rfl ?_
    exact kt
  obtain ⟨cl105, Ar105, q105, S105, M105, H105, G105⟩ := id V1
  have hin105 : ¬ ((0 : Int32) < 0 ∨ cl105.slots.size ≤ ((0 : Int32)).toNatClampNeg) := inb_of S105 ⟨by decide, by decide⟩
  have hat105 : cl105.slots[((0 : Int32)).toNatClampNeg]? = some (.long x0) := H105 0 (by rw [S105]; decide)
  have K106 : ∀ t, Steps p.tables e below (T102.setTop (mkF m 7 #[.val (.ref a1), .val (.int (0 : Int32))] [(.int (2 : Int32)), (.long x0)])) t → Steps p.tables e below (s₁.setTop (entryFrame m #[(.ref a1), (.int (0 : Int32))] 2)) t := by
    intro t kt
    refine K104 t ?_
    show Steps p.tables e below (T102.setTop (mkF m 5 #[.val (.ref a1), .val (.int (0 : Int32))] [(.int (0 : Int32)), (.ref t1)])) _
    refine X102.laload hx (j := (0 : Int32)) (v := (.long x0)) (by rw [e102]; exact Ar105.1) (State.isArrayOf_alike hZ.alike Ar105.2.1) Ar105.2.2 hin105 hat105 (g := (mkF m 5 #[.val (.ref a1), .val (.int (0 : Int32))] [(.int (0 : Int32)), (.ref t1)])) rfl rfl (hb hby d11_5) _ ?_
    show Steps p.tables e below (T102.setTop (mkF m 6 #[.val (.ref a1), .val (.int (0 : Int32))] [(.long x0)])) _
    refine XS.iconst X102.here hx rfl (hb hby d11_6) ?_
    exact kt
  obtain ⟨_, _, ⟨T107, L107, k107, n107⟩, -, X107, ⟨Lc107, hQ107, l107, y107, z107⟩, st107⟩ := Jvm.LawKit.callS X102 hx (y := (⟨"java/math/BigDecimal", "valueOf", "(JI)Ljava/math/BigDecimal;"⟩ : MethodName)) hown (mvT hZ (hw _ (List.mem_of_getElem? (i := 71) rfl))) (mvT hZ (hw _ (List.mem_of_getElem? (i := 72) rfl))) (mvT hZ (hw _ (List.mem_of_getElem? (i := 73) rfl))) (mvT hZ (hw _ (List.mem_of_getElem? (i := 74) rfl))) (by decide) (backOf (W := 0) (rmVO l Z a0 hw [] x0 az z2 cz h0 n0 Z0 hq ZZ) hZ (hw _ (List.mem_of_getElem? (i := 74) rfl)) (hw _ (List.mem_of_getElem? (i := 73) rfl)) (by decide) (by decide)) (g := (mkF m 7 #[.val (.ref a1), .val (.int (0 : Int32))] [(.int (2 : Int32)), (.long x0)])) rfl (by rw [hml]; rfl) (argsL := [(.long x0), (.int (2 : Int32))]) (rest := []) (lenOf pd_5 rfl) rfl (by show 2 * 0 + _ ≤ _; exact Nat.le_of_eq rfl) (hb hby d11_7) (fun _ _ => ⟨rfl, e102, (by decide : 0 + 1 ≤ _), (by decide : 0 + 5 ≤ _)⟩)
  dsimp only [Pt.U, Pt.locs, Pt.cells, Pt.slots] at X107 l107 y107 z107 st107 hQ107
  subst l107 y107 z107
  obtain ⟨b107, iv107, rfl, ri107, B107, Nq107, Kq107⟩ := hQ107
  have f108 := Nat.le_trans Z0 Kq107.1
  have f109 := KK0.trans Kq107 all0
  have f110 := E1.keep Kq107
  have f111 := F1.keep Kq107 own_nil
  have f112 := V1.keep Kq107 own_nil
  have f113 := B1.keep Kq107
  have N107 := Fr.app N0 Nq107
  have K114 : ∀ t, Steps p.tables e below (T107.setTop (mkF m 10 #[.val (.ref a1), .val (.int (0 : Int32))] [(.ref b107)])) t → Steps p.tables e below (s₁.setTop (entryFrame m #[(.ref a1), (.int (0 : Int32))] 2)) t := fun t kt => K106 t (st107 t kt)
  obtain ⟨fs, hr, hrun, hended, hW, hsame⟩ := X107.leave (v := some (.ref b107)) (fun h => by rw [Bd.returns] at h; cases h) (hlocks := hlk)
  refine ⟨_, _, K114 _ ?_, hrun, hended, _, _, rfl, ?_, ⟨_, rfl⟩, hW, hsame.mono (by decide) (by decide)⟩
  · exact retOut X107 hx Bd.returns rfl (Or.inr (Or.inr (Or.inr (Or.inr ⟨rfl, rfl, rfl⟩)))) (hb hby d11_10) hr
  · show QrmAM0 Z x0 h0 n0 _ T107.heap _
    exact ⟨_, _, rfl, ri107, B107, N107, f109⟩
theorem ef_rmAM1 (m : MethodId) (x0 : Addr) (x1 : Int32) : entryFrame m #[(.ref x0), (.int x1)] 2 = mkF m 0 #[.val (.ref x0), .val (.int x1)] [] := by first | (simp [entryFrame, mkF, argsToLocals, Value.category]; done) | rfl
def QrmAM1 (Z : State) (x : Int64) (h0 : Heap) (n0 : Nat) (v : Option Value) (h : Heap) (L : List Loc) : Prop := ∃ (b : Addr) (iv : Value), v = some (.ref b) ∧ iv.isRef = true ∧ BDp Z h b x (2 : Int32) iv ∧ Fr n0 L ∧ Keep h0 h []
set_option maxRecDepth 65536 in
set_option maxHeartbeats 40000000 in
theorem rmAM1 (l : Launch) (Z : State) (a0 : Array Value) (hw : ∀ d ∈ tables_1, d.before a0 Z = true) (ws : List Jvm.Cond) (a1 t1 : Addr) (k1 : ClassId) (x0 x1 x2 : Int64) (az z2 : Addr) (cz : Cell) (h0 : Heap) (n0 : Nat) (Z0 : n0 ≤ h0.size) (E1 : Exa Z h0 a1 "com/example/tranchery/tranchery/Cents") (F1 : Fld Z h0 a1 "com/example/tranchery/tranchery/Cents" "amounts" "[J" (.ref t1)) (V1 : Arv Z h0 t1 k1 .long (3 : Int32) [(.long x0), (.long x1), (.long x2)] (.long (0 : Int64))) (B1 : Exa Z h0 t1 "[J") (hq : ¬ x1 = (-9223372036854775808 : Int64)) (ZZ : ZSc Z h0 az z2 cz) :
    MetFree l (⟨"com/example/tranchery/tranchery/Cents", "amount", "(I)Ljava/math/BigDecimal;"⟩ : MethodName) (head1 (Jvm.Cond.code (⟨"com/example/tranchery/tranchery/Cents", "amount", "(I)Ljava/math/BigDecimal;"⟩ : MethodName) prog_5_method_7_code 2 (some (.object "java/math/BigDecimal")) :: ws) ({ frames := 4, cells := 1, slots := 5, locals := 56 } : Room)) (fun a U => a = #[(.ref a1), (.int (1 : Int32))] ∧ Z.Warmed39 U.vm ∧ U.heap = h0) (fun _ _ _ _ _ => True) (fun _ U o U' => ∃ v L, o = .returned v ∧ QrmAM1 Z x1 h0 n0 v U'.heap L ∧ FrameEnd U o U' L ({ frames := 4, cells := 1, slots := 5, locals := 56 } : Room).cells ({ frames := 4, cells := 1, slots := 5, locals := 56 } : Room).slots) := by
  refine MetFree.of_bodySF (plainFor_of_name pn_2) hisR ?_
  intro p e s m args below meth c s₁ Bd hml0 hP hK
  obtain ⟨rfl, hZ, hh⟩ := hP
  have hx := Bd.exec
  have hlk : meth.locks = false := BodyLoose.notSynchronized Bd
  have hby := Bd.bytes
  have hml : c.maxLocals = 2 := hml0
  have hown : s.vm.findClass "com/example/tranchery/tranchery/Cents" = some m.cls := findClass_of_methodNamed Bd.named
  have hnm := (name_of_methodNamed Bd.named Bd.method).1
  have X0 : Stand p l e ({ frames := 4, cells := 1, slots := 5, locals := 56 } : Room) s m #[(.ref a1), (.int (1 : Int32))] below meth c s₁ [] 0 0 := Stand.of_body Bd
  have e0 : s₁.heap = h0 := by rw [← hh, Bd.state]; rfl
  have N0 := Fr.nil n0
  have K0 : ∀ t, Steps p.tables e below (s₁.setTop (mkF m 0 #[.val (.ref a1), .val (.int (1 : Int32))] [])) t → Steps p.tables e below (s₁.setTop (entryFrame m #[(.ref a1), (.int (1 : Int32))] 2)) t := fun t k => castTop (ef_rmAM1 m a1 (1 : Int32)) k
  have KK0 : Keep h0 h0 [] := Keep.refl _ _
  
  have K101 : ∀ t, Steps p.tables e below (s₁.setTop (mkF m 1 #[.val (.ref a1), .val (.int (1 : Int32))] [(.ref a1)])) t → Steps p.tables e below (s₁.setTop (entryFrame m #[(.ref a1), (.int (1 : Int32))] 2)) t := by
    intro t kt
    refine K0 t ?_
    show Steps p.tables e below (s₁.setTop (mkF m 0 #[.val (.ref a1), .val (.int (1 : Int32))] [])) _
    refine XS.aloadN X0.here hx rfl (hb hby d11_0) rfl rfl ?_
    exact kt
  obtain ⟨T102, X102, e102, st102⟩ := getF X0 hx hZ hown (host := "") (Or.inl (hw _ (List.mem_of_getElem? (i := 13) rfl))) Via.refl e0 F1 (g := (mkF m 1 #[.val (.ref a1), .val (.int (1 : Int32))] [(.ref a1)])) rfl rfl (hb hby d11_1)
  have K103 : ∀ t, Steps p.tables e below (T102.setTop (mkF m 4 #[.val (.ref a1), .val (.int (1 : Int32))] [(.ref t1)])) t → Steps p.tables e below (s₁.setTop (entryFrame m #[(.ref a1), (.int (1 : Int32))] 2)) t := fun t kt => K101 t (st102 t kt)
  have K104 : ∀ t, Steps p.tables e below (T102.setTop (mkF m 5 #[.val (.ref a1), .val (.int (1 : Int32))] [(.int (1 : Int32)), (.ref t1)])) t → Steps p.tables e below (s₁.setTop (entryFrame m #[(.ref a1), (.int (1 : Int32))] 2)) t := by
    intro t kt
    refine K103 t ?_
    show Steps p.tables e below (T102.setTop (mkF m 4 #[.val (.ref a1), .val (.int (1 : Int32))] [(.ref t1)])) _
    refine XS.iloadN X102.here hx rfl (hb hby d11_4) rfl ?_
    exact kt
  obtain ⟨cl105, Ar105, q105, S105, M105, H105, G105⟩ := id V1
  have hin105 : ¬ ((1 : Int32) < 0 ∨ cl105.slots.size ≤ ((1 : Int32)).toNatClampNeg) := inb_of S105 ⟨by decide, by decide⟩
  have hat105 : cl105.slots[((1 : Int32)).toNatClampNeg]? = some (.long x1) := H105 1 (by rw [S105]; decide)
  have K106 : ∀ t, Steps p.tables e below (T102.setTop (mkF m 7 #[.val (.ref a1), .val (.int (1 : Int32))] [(.int (2 : Int32)), (.long x1)])) t → Steps p.tables e below (s₁.setTop (entryFrame m #[(.ref a1), (.int (1 : Int32))] 2)) t := by
    intro t kt
    refine K104 t ?_
    show Steps p.tables e below (T102.setTop (mkF m 5 #[.val (.ref a1), .val (.int (1 : Int32))] [(.int (1 : Int32)), (.ref t1)])) _
    refine X102.laload hx (j := (1 : Int32)) (v := (.long x1)) (by rw [e102]; exact Ar105.1) (State.isArrayOf_alike hZ.alike Ar105.2.1) Ar105.2.2 hin105 hat105 (g := (mkF m 5 #[.val (.ref a1), .val (.int (1 : Int32))] [(.int (1 : Int32)), (.ref t1)])) rfl rfl (hb hby d11_5) _ ?_
    show Steps p.tables e below (T102.setTop (mkF m 6 #[.val (.ref a1), .val (.int (1 : Int32))] [(.long x1)])) _
    refine XS.iconst X102.here hx rfl (hb hby d11_6) ?_
    exact kt
  obtain ⟨_, _, ⟨T107, L107, k107, n107⟩, -, X107, ⟨Lc107, hQ107, l107, y107, z107⟩, st107⟩ := Jvm.LawKit.callS X102 hx (y := (⟨"java/math/BigDecimal", "valueOf", "(JI)Ljava/math/BigDecimal;"⟩ : MethodName)) hown (mvT hZ (hw _ (List.mem_of_getElem? (i := 71) rfl))) (mvT hZ (hw _ (List.mem_of_getElem? (i := 72) rfl))) (mvT hZ (hw _ (List.mem_of_getElem? (i := 73) rfl))) (mvT hZ (hw _ (List.mem_of_getElem? (i := 74) rfl))) (by decide) (backOf (W := 0) (rmVO l Z a0 hw [] x1 az z2 cz h0 n0 Z0 hq ZZ) hZ (hw _ (List.mem_of_getElem? (i := 74) rfl)) (hw _ (List.mem_of_getElem? (i := 73) rfl)) (by decide) (by decide)) (g := (mkF m 7 #[.val (.ref a1), .val (.int (1 : Int32))] [(.int (2 : Int32)), (.long x1)])) rfl (by rw [hml]; rfl) (argsL := [(.long x1), (.int (2 : Int32))]) (rest := []) (lenOf pd_5 rfl) rfl (by show 2 * 0 + _ ≤ _; exact Nat.le_of_eq rfl) (hb hby d11_7) (fun _ _ => ⟨rfl, e102, (by decide : 0 + 1 ≤ _), (by decide : 0 + 5 ≤ _)⟩)
  dsimp only [Pt.U, Pt.locs, Pt.cells, Pt.slots] at X107 l107 y107 z107 st107 hQ107
  subst l107 y107 z107
  obtain ⟨b107, iv107, rfl, ri107, B107, Nq107, Kq107⟩ := hQ107
  have f108 := Nat.le_trans Z0 Kq107.1
  have f109 := KK0.trans Kq107 all0
  have f110 := E1.keep Kq107
  have f111 := F1.keep Kq107 own_nil
  have f112 := V1.keep Kq107 own_nil
  have f113 := B1.keep Kq107
  have N107 := Fr.app N0 Nq107
  have K114 : ∀ t, Steps p.tables e below (T107.setTop (mkF m 10 #[.val (.ref a1), .val (.int (1 : Int32))] [(.ref b107)])) t → Steps p.tables e below (s₁.setTop (entryFrame m #[(.ref a1), (.int (1 : Int32))] 2)) t := fun t kt => K106 t (st107 t kt)
  obtain ⟨fs, hr, hrun, hended, hW, hsame⟩ := X107.leave (v := some (.ref b107)) (fun h => by rw [Bd.returns] at h; cases h) (hlocks := hlk)
  refine ⟨_, _, K114 _ ?_, hrun, hended, _, _, rfl, ?_, ⟨_, rfl⟩, hW, hsame.mono (by decide) (by decide)⟩
  · exact retOut X107 hx Bd.returns rfl (Or.inr (Or.inr (Or.inr (Or.inr ⟨rfl, rfl, rfl⟩)))) (hb hby d11_10) hr
  · show QrmAM1 Z x1 h0 n0 _ T107.heap _
    exact ⟨_, _, rfl, ri107, B107, N107, f109⟩
theorem ef_rmAM2 (m : MethodId) (x0 : Addr) (x1 : Int32) : entryFrame m #[(.ref x0), (.int x1)] 2 = mkF m 0 #[.val (.ref x0), .val (.int x1)] [] := by first | (simp [entryFrame, mkF, argsToLocals, Value.category]; done) | rfl
def QrmAM2 (Z : State) (x : Int64) (h0 : Heap) (n0 : Nat) (v : Option Value) (h : Heap) (L : List Loc) : Prop := ∃ (b : Addr) (iv : Value), v = some (.ref b) ∧ iv.isRef = true ∧ BDp Z h b x (2 : Int32) iv ∧ Fr n0 L ∧ Keep h0 h []
set_option maxRecDepth 65536 in
set_option maxHeartbeats 40000000 in
theorem rmAM2 (l : Launch) (Z : State) (a0 : Array Value) (hw : ∀ d ∈ tables_1, d.before a0 Z = true) (ws : List Jvm.Cond) (a1 t1 : Addr) (k1 : ClassId) (x0 x1 x2 : Int64) (az z2 : Addr) (cz : Cell) (h0 : Heap) (n0 : Nat) (Z0 : n0 ≤ h0.size) (E1 : Exa Z h0 a1 "com/example/tranchery/tranchery/Cents") (F1 : Fld Z h0 a1 "com/example/tranchery/tranchery/Cents" "amounts" "[J" (.ref t1)) (V1 : Arv Z h0 t1 k1 .long (3 : Int32) [(.long x0), (.long x1), (.long x2)] (.long (0 : Int64))) (B1 : Exa Z h0 t1 "[J") (hq : ¬ x2 = (-9223372036854775808 : Int64)) (ZZ : ZSc Z h0 az z2 cz) :
    MetFree l (⟨"com/example/tranchery/tranchery/Cents", "amount", "(I)Ljava/math/BigDecimal;"⟩ : MethodName) (head1 (Jvm.Cond.code (⟨"com/example/tranchery/tranchery/Cents", "amount", "(I)Ljava/math/BigDecimal;"⟩ : MethodName) prog_5_method_7_code 2 (some (.object "java/math/BigDecimal")) :: ws) ({ frames := 4, cells := 1, slots := 5, locals := 56 } : Room)) (fun a U => a = #[(.ref a1), (.int (2 : Int32))] ∧ Z.Warmed39 U.vm ∧ U.heap = h0) (fun _ _ _ _ _ => True) (fun _ U o U' => ∃ v L, o = .returned v ∧ QrmAM2 Z x2 h0 n0 v U'.heap L ∧ FrameEnd U o U' L ({ frames := 4, cells := 1, slots := 5, locals := 56 } : Room).cells ({ frames := 4, cells := 1, slots := 5, locals := 56 } : Room).slots) := by
  refine MetFree.of_bodySF (plainFor_of_name pn_2) hisR ?_
  intro p e s m args below meth c s₁ Bd hml0 hP hK
  obtain ⟨rfl, hZ, hh⟩ := hP
  have hx := Bd.exec
  have hlk : meth.locks = false := BodyLoose.notSynchronized Bd
  have hby := Bd.bytes
  have hml : c.maxLocals = 2 := hml0
  have hown : s.vm.findClass "com/example/tranchery/tranchery/Cents" = some m.cls := findClass_of_methodNamed Bd.named
  have hnm := (name_of_methodNamed Bd.named Bd.method).1
  have X0 : Stand p l e ({ frames := 4, cells := 1, slots := 5, locals := 56 } : Room) s m #[(.ref a1), (.int (2 : Int32))] below meth c s₁ [] 0 0 := Stand.of_body Bd
  have e0 : s₁.heap = h0 := by rw [← hh, Bd.state]; rfl
  have N0 := Fr.nil n0
  have K0 : ∀ t, Steps p.tables e below (s₁.setTop (mkF m 0 #[.val (.ref a1), .val (.int (2 : Int32))] [])) t → Steps p.tables e below (s₁.setTop (entryFrame m #[(.ref a1), (.int (2 : Int32))] 2)) t := fun t k => castTop (ef_rmAM2 m a1 (2 : Int32)) k
  have KK0 : Keep h0 h0 [] := Keep.refl _ _
  
  have K101 : ∀ t, Steps p.tables e below (s₁.setTop (mkF m 1 #[.val (.ref a1), .val (.int (2 : Int32))] [(.ref a1)])) t → Steps p.tables e below (s₁.setTop (entryFrame m #[(.ref a1), (.int (2 : Int32))] 2)) t := by
    intro t kt
    refine K0 t ?_
    show Steps p.tables e below (s₁.setTop (mkF m 0 #[.val (.ref a1), .val (.int (2 : Int32))] [])) _
    refine XS.aloadN X0.here hx rfl (hb hby d11_0) rfl rfl ?_
    exact kt
  obtain ⟨T102, X102, e102, st102⟩ := getF X0 hx hZ hown (host := "") (Or.inl (hw _ (List.mem_of_getElem? (i := 13) rfl))) Via.refl e0 F1 (g := (mkF m 1 #[.val (.ref a1), .val (.int (2 : Int32))] [(.ref a1)])) rfl rfl (hb hby d11_1)
  have K103 : ∀ t, Steps p.tables e below (T102.setTop (mkF m 4 #[.val (.ref a1), .val (.int (2 : Int32))] [(.ref t1)])) t → Steps p.tables e below (s₁.setTop (entryFrame m #[(.ref a1), (.int (2 : Int32))] 2)) t := fun t kt => K101 t (st102 t kt)
  have K104 : ∀ t, Steps p.tables e below (T102.setTop (mkF m 5 #[.val (.ref a1), .val (.int (2 : Int32))] [(.int (2 : Int32)), (.ref t1)])) t → Steps p.tables e below (s₁.setTop (entryFrame m #[(.ref a1), (.int (2 : Int32))] 2)) t := by
    intro t kt
    refine K103 t ?_
    show Steps p.tables e below (T102.setTop (mkF m 4 #[.val (.ref a1), .val (.int (2 : Int32))] [(.ref t1)])) _
    refine XS.iloadN X102.here hx rfl (hb hby d11_4) rfl ?_
    exact kt
  obtain ⟨cl105, Ar105, q105, S105, M105, H105, G105⟩ := id V1
  have hin105 : ¬ ((2 : Int32) < 0 ∨ cl105.slots.size ≤ ((2 : Int32)).toNatClampNeg) := inb_of S105 ⟨by decide, by decide⟩
  have hat105 : cl105.slots[((2 : Int32)).toNatClampNeg]? = some (.long x2) := H105 2 (by rw [S105]; decide)
  have K106 : ∀ t, Steps p.tables e below (T102.setTop (mkF m 7 #[.val (.ref a1), .val (.int (2 : Int32))] [(.int (2 : Int32)), (.long x2)])) t → Steps p.tables e below (s₁.setTop (entryFrame m #[(.ref a1), (.int (2 : Int32))] 2)) t := by
    intro t kt
    refine K104 t ?_
    show Steps p.tables e below (T102.setTop (mkF m 5 #[.val (.ref a1), .val (.int (2 : Int32))] [(.int (2 : Int32)), (.ref t1)])) _
    refine X102.laload hx (j := (2 : Int32)) (v := (.long x2)) (by rw [e102]; exact Ar105.1) (State.isArrayOf_alike hZ.alike Ar105.2.1) Ar105.2.2 hin105 hat105 (g := (mkF m 5 #[.val (.ref a1), .val (.int (2 : Int32))] [(.int (2 : Int32)), (.ref t1)])) rfl rfl (hb hby d11_5) _ ?_
    show Steps p.tables e below (T102.setTop (mkF m 6 #[.val (.ref a1), .val (.int (2 : Int32))] [(.long x2)])) _
    refine XS.iconst X102.here hx rfl (hb hby d11_6) ?_
    exact kt
  obtain ⟨_, _, ⟨T107, L107, k107, n107⟩, -, X107, ⟨Lc107, hQ107, l107, y107, z107⟩, st107⟩ := Jvm.LawKit.callS X102 hx (y := (⟨"java/math/BigDecimal", "valueOf", "(JI)Ljava/math/BigDecimal;"⟩ : MethodName)) hown (mvT hZ (hw _ (List.mem_of_getElem? (i := 71) rfl))) (mvT hZ (hw _ (List.mem_of_getElem? (i := 72) rfl))) (mvT hZ (hw _ (List.mem_of_getElem? (i := 73) rfl))) (mvT hZ (hw _ (List.mem_of_getElem? (i := 74) rfl))) (by decide) (backOf (W := 0) (rmVO l Z a0 hw [] x2 az z2 cz h0 n0 Z0 hq ZZ) hZ (hw _ (List.mem_of_getElem? (i := 74) rfl)) (hw _ (List.mem_of_getElem? (i := 73) rfl)) (by decide) (by decide)) (g := (mkF m 7 #[.val (.ref a1), .val (.int (2 : Int32))] [(.int (2 : Int32)), (.long x2)])) rfl (by rw [hml]; rfl) (argsL := [(.long x2), (.int (2 : Int32))]) (rest := []) (lenOf pd_5 rfl) rfl (by show 2 * 0 + _ ≤ _; exact Nat.le_of_eq rfl) (hb hby d11_7) (fun _ _ => ⟨rfl, e102, (by decide : 0 + 1 ≤ _), (by decide : 0 + 5 ≤ _)⟩)
  dsimp only [Pt.U, Pt.locs, Pt.cells, Pt.slots] at X107 l107 y107 z107 st107 hQ107
  subst l107 y107 z107
  obtain ⟨b107, iv107, rfl, ri107, B107, Nq107, Kq107⟩ := hQ107
  have f108 := Nat.le_trans Z0 Kq107.1
  have f109 := KK0.trans Kq107 all0
  have f110 := E1.keep Kq107
  have f111 := F1.keep Kq107 own_nil
  have f112 := V1.keep Kq107 own_nil
  have f113 := B1.keep Kq107
  have N107 := Fr.app N0 Nq107
  have K114 : ∀ t, Steps p.tables e below (T107.setTop (mkF m 10 #[.val (.ref a1), .val (.int (2 : Int32))] [(.ref b107)])) t → Steps p.tables e below (s₁.setTop (entryFrame m #[(.ref a1), (.int (2 : Int32))] 2)) t := fun t kt => K106 t (st107 t kt)
  obtain ⟨fs, hr, hrun, hended, hW, hsame⟩ := X107.leave (v := some (.ref b107)) (fun h => by rw [Bd.returns] at h; cases h) (hlocks := hlk)
  refine ⟨_, _, K114 _ ?_, hrun, hended, _, _, rfl, ?_, ⟨_, rfl⟩, hW, hsame.mono (by decide) (by decide)⟩
  · exact retOut X107 hx Bd.returns rfl (Or.inr (Or.inr (Or.inr (Or.inr ⟨rfl, rfl, rfl⟩)))) (hb hby d11_10) hr
  · show QrmAM2 Z x2 h0 n0 _ T107.heap _
    exact ⟨_, _, rfl, ri107, B107, N107, f109⟩
theorem ef_rmBL (m : MethodId) (x0 : Addr) : entryFrame m #[(.ref x0)] 1 = mkF m 0 #[.val (.ref x0)] [] := by first | (simp [entryFrame, mkF, argsToLocals, Value.category]; done) | rfl
def QrmBL (Z : State) (a1 : Addr) (h0 : Heap) (n0 : Nat) (v : Option Value) (h : Heap) (L : List Loc) : Prop := v = none ∧ Fr n0 L ∧ Keep h0 h [a1] ∧ Fld Z h a1 "java/util/AbstractList" "modCount" "I" (.int (0 : Int32)) ∧ Fld Z h a1 "java/util/ArrayList" "elementData" "[Ljava/lang/Object;" .null ∧ Fld Z h a1 "java/util/ArrayList" "size" "I" (.int (0 : Int32))
set_option maxRecDepth 65536 in
set_option maxHeartbeats 40000000 in
theorem rmBL (l : Launch) (Z : State) (a0 : Array Value) (hw : ∀ d ∈ tables_1, d.before a0 Z = true) (ws : List Jvm.Cond) (a1 : Addr) (h0 : Heap) (n0 : Nat) (Z0 : n0 ≤ h0.size) (E1 : Exa Z h0 a1 "java/util/ArrayList") (F1 : Fld Z h0 a1 "java/util/AbstractList" "modCount" "I" (.int (0 : Int32))) (F2 : Fld Z h0 a1 "java/util/ArrayList" "elementData" "[Ljava/lang/Object;" .null) (F3 : Fld Z h0 a1 "java/util/ArrayList" "size" "I" (.int (0 : Int32))) (g1 : n0 ≤ a1) :
    MetFree l (⟨"java/util/AbstractList", "<init>", "()V"⟩ : MethodName) (head1 (Jvm.Cond.code (⟨"java/util/AbstractList", "<init>", "()V"⟩ : MethodName) jdk_39_method_1_code 1 none :: ws) ({ frames := 2, cells := 0, slots := 0, locals := 24 } : Room)) (fun a U => a = #[(.ref a1)] ∧ Z.Warmed39 U.vm ∧ U.heap = h0) (fun _ _ _ _ _ => True) (fun _ U o U' => ∃ v L, o = .returned v ∧ QrmBL Z a1 h0 n0 v U'.heap L ∧ FrameEnd U o U' L ({ frames := 2, cells := 0, slots := 0, locals := 24 } : Room).cells ({ frames := 2, cells := 0, slots := 0, locals := 24 } : Room).slots) := by
  refine MetFree.of_bodySF (plainFor_of_name pn_4) hisR ?_
  intro p e s m args below meth c s₁ Bd hml0 hP hK
  obtain ⟨rfl, hZ, hh⟩ := hP
  have hx := Bd.exec
  have hlk : meth.locks = false := BodyLoose.notSynchronized Bd
  have hby := Bd.bytes
  have hml : c.maxLocals = 1 := hml0
  have hown : s.vm.findClass "java/util/AbstractList" = some m.cls := findClass_of_methodNamed Bd.named
  have hnm := (name_of_methodNamed Bd.named Bd.method).1
  have X0 : Stand p l e ({ frames := 2, cells := 0, slots := 0, locals := 24 } : Room) s m #[(.ref a1)] below meth c s₁ [] 0 0 := Stand.of_body Bd
  have e0 : s₁.heap = h0 := by rw [← hh, Bd.state]; rfl
  have N0 := Fr.nil n0
  have K0 : ∀ t, Steps p.tables e below (s₁.setTop (mkF m 0 #[.val (.ref a1)] [])) t → Steps p.tables e below (s₁.setTop (entryFrame m #[(.ref a1)] 1)) t := fun t k => castTop (ef_rmBL m a1) k
  have KK0 : Keep h0 h0 [a1] := Keep.refl _ _
  
  have K101 : ∀ t, Steps p.tables e below (s₁.setTop (mkF m 1 #[.val (.ref a1)] [(.ref a1)])) t → Steps p.tables e below (s₁.setTop (entryFrame m #[(.ref a1)] 1)) t := by
    intro t kt
    refine K0 t ?_
    show Steps p.tables e below (s₁.setTop (mkF m 0 #[.val (.ref a1)] [])) _
    refine XS.aloadN X0.here hx rfl (hb hby d9_0) rfl rfl ?_
    exact kt
  obtain ⟨_, _, ⟨T102, L102, k102, n102⟩, -, X102, ⟨Lc102, hQ102, l102, y102, z102⟩, st102⟩ := X0.specialBack hx (y := (⟨"java/util/AbstractCollection", "<init>", "()V"⟩ : MethodName)) rfl hown (mvT hZ (hw _ (List.mem_of_getElem? (i := 53) rfl))) (mvT hZ (hw _ (List.mem_of_getElem? (i := 54) rfl))) (mvT hZ (hw _ (List.mem_of_getElem? (i := 58) rfl))) (by decide) (backOf (W := 0) (rmAC l Z a0 hw [] a1 h0 n0 Z0) hZ (hw _ (List.mem_of_getElem? (i := 58) rfl)) (hw _ (List.mem_of_getElem? (i := 57) rfl)) (by decide) (by decide)) (g := (mkF m 1 #[.val (.ref a1)] [(.ref a1)])) rfl (by rw [hml]; rfl) (Steps.refl _) (a := a1) (argsL := []) (rest := []) (lenOf pd_2 rfl) rfl (by show 2 * 0 + _ ≤ _; exact Nat.le_of_eq rfl) (hb hby d9_1) (fun _ _ => ⟨rfl, e0, (by decide : 0 + 0 ≤ _), (by decide : 0 + 0 ≤ _)⟩)
  dsimp only [Pt.U, Pt.locs, Pt.cells, Pt.slots] at X102 l102 y102 z102 st102 hQ102
  subst l102 y102 z102
  obtain ⟨rfl, Nq102, e102⟩ := hQ102
  have N102 := Fr.app N0 Nq102
  have K103 : ∀ t, Steps p.tables e below (T102.setTop (mkF m 4 #[.val (.ref a1)] [])) t → Steps p.tables e below (s₁.setTop (entryFrame m #[(.ref a1)] 1)) t := fun t kt => K101 t (st102.trans kt)
  have K104 : ∀ t, Steps p.tables e below (T102.setTop (mkF m 6 #[.val (.ref a1)] [(.int (0 : Int32)), (.ref a1)])) t → Steps p.tables e below (s₁.setTop (entryFrame m #[(.ref a1)] 1)) t := by
    intro t kt
    refine K103 t ?_
    show Steps p.tables e below (T102.setTop (mkF m 4 #[.val (.ref a1)] [])) _
    refine XS.aloadN X102.here hx rfl (hb hby d9_4) rfl rfl ?_
    show Steps p.tables e below (T102.setTop (mkF m 5 #[.val (.ref a1)] [(.ref a1)])) _
    refine XS.iconst X102.here hx rfl (hb hby d9_5) ?_
    exact kt
  obtain ⟨T105, h105, X105, e105, W105, st105⟩ := putF X102 hx hZ hown (host := "") (Or.inl (hw _ (List.mem_of_getElem? (i := 60) rfl))) Via.refl e102 F1 E1 (Or.inl (hw _ (List.mem_of_getElem? (i := 61) rfl))) (hw _ (List.mem_of_getElem? (i := 42) rfl)) (ty := .int) (by decide) rfl rfl (g := (mkF m 6 #[.val (.ref a1)] [(.int (0 : Int32)), (.ref a1)])) rfl rfl (hb hby d9_6)
  have f106 := Nat.le_trans Z0 (Nat.le_of_eq W105.size.symm)
  have f107 := KK0.wr W105 (Or.inl (List.mem_of_getElem? (i := 0) rfl))
  have f108 := E1.wr W105
  have f109 := F2.other W105 (Or.inr (slot_ne (Or.inl (hw _ (List.mem_of_getElem? (i := 65) rfl))) (Or.inl (hw _ (List.mem_of_getElem? (i := 61) rfl))) (by decide) (t := (.array (.object "java/lang/Object"))) (t' := .int) (by decide) (by decide)))
  have f110 := F3.other W105 (Or.inr (slot_ne (Or.inl (hw _ (List.mem_of_getElem? (i := 109) rfl))) (Or.inl (hw _ (List.mem_of_getElem? (i := 61) rfl))) (by decide) (t := .int) (t' := .int) (by decide) (by decide)))
  have F105 := F1.same W105
  have N105 := Fr.snoc X105 N102 g1
  have K111 : ∀ t, Steps p.tables e below (T105.setTop (mkF m 9 #[.val (.ref a1)] [])) t → Steps p.tables e below (s₁.setTop (entryFrame m #[(.ref a1)] 1)) t := fun t kt => K104 t (st105 t kt)
  obtain ⟨fs, hr, hrun, hended, hW, hsame⟩ := X105.leave (v := none) (fun _ => rfl) (hlocks := hlk)
  refine ⟨_, _, K111 _ ?_, hrun, hended, _, _, rfl, ?_, ⟨_, rfl⟩, hW, hsame.mono (by decide) (by decide)⟩
  · exact X105.returnOut hx Bd.returns (hb hby d9_9) hr
  · show QrmBL Z a1 h0 n0 _ T105.heap _
    rw [e105]
    exact ⟨rfl, N105, f107, F105, f109, f110⟩
theorem ef_rmAI3 (m : MethodId) (x0 : Addr) (x1 : Int32) : entryFrame m #[(.ref x0), (.int x1)] 2 = mkF m 0 #[.val (.ref x0), .val (.int x1)] [] := by first | (simp [entryFrame, mkF, argsToLocals, Value.category]; done) | rfl
def QrmAI3 (Z : State) (a1 : Addr) (h0 : Heap) (n0 : Nat) (v : Option Value) (h : Heap) (L : List Loc) : Prop := v = none ∧ Fr n0 L ∧ Keep h0 h [a1] ∧ ∃ (t : Addr) (kk : ClassId), n0 ≤ t ∧ h0.size ≤ t ∧ Ovr Z kk "java/lang/Object" ∧ Fld Z h a1 "java/util/AbstractList" "modCount" "I" (.int (0 : Int32)) ∧ Fld Z h a1 "java/util/ArrayList" "elementData" "[Ljava/lang/Object;" (.ref t) ∧ Fld Z h a1 "java/util/ArrayList" "size" "I" (.int (0 : Int32)) ∧ Arv Z h t kk (.object "java/lang/Object") (3 : Int32) [.null, .null, .null] .null
set_option maxRecDepth 65536 in
set_option maxHeartbeats 40000000 in
theorem rmAI3 (l : Launch) (Z : State) (a0 : Array Value) (hw : ∀ d ∈ tables_1, d.before a0 Z = true) (ws : List Jvm.Cond) (a1 : Addr) (h0 : Heap) (n0 : Nat) (Z0 : n0 ≤ h0.size) (E1 : Exa Z h0 a1 "java/util/ArrayList") (F1 : Fld Z h0 a1 "java/util/AbstractList" "modCount" "I" (.int (0 : Int32))) (F2 : Fld Z h0 a1 "java/util/ArrayList" "elementData" "[Ljava/lang/Object;" .null) (F3 : Fld Z h0 a1 "java/util/ArrayList" "size" "I" (.int (0 : Int32))) (g1 : n0 ≤ a1) :
    MetFree l (⟨"java/util/ArrayList", "<init>", "(I)V"⟩ : MethodName) (head1 (Jvm.Cond.code (⟨"java/util/ArrayList", "<init>", "(I)V"⟩ : MethodName) jdk_38_method_1_code 2 none :: ws) ({ frames := 3, cells := 1, slots := 3, locals := 36 } : Room)) (fun a U => a = #[(.ref a1), (.int (3 : Int32))] ∧ Z.Warmed39 U.vm ∧ U.heap = h0) (fun _ _ _ _ _ => True) (fun _ U o U' => ∃ v L, o = .returned v ∧ QrmAI3 Z a1 h0 n0 v U'.heap L ∧ FrameEnd U o U' L ({ frames := 3, cells := 1, slots := 3, locals := 36 } : Room).cells ({ frames := 3, cells := 1, slots := 3, locals := 36 } : Room).slots) := by
  refine MetFree.of_bodySF (plainFor_of_name pn_5) hisR ?_
  intro p e s m args below meth c s₁ Bd hml0 hP hK
  obtain ⟨rfl, hZ, hh⟩ := hP
  have hx := Bd.exec
  have hlk : meth.locks = false := BodyLoose.notSynchronized Bd
  have hby := Bd.bytes
  have hml : c.maxLocals = 2 := hml0
  have hown : s.vm.findClass "java/util/ArrayList" = some m.cls := findClass_of_methodNamed Bd.named
  have hnm := (name_of_methodNamed Bd.named Bd.method).1
  have X0 : Stand p l e ({ frames := 3, cells := 1, slots := 3, locals := 36 } : Room) s m #[(.ref a1), (.int (3 : Int32))] below meth c s₁ [] 0 0 := Stand.of_body Bd
  have e0 : s₁.heap = h0 := by rw [← hh, Bd.state]; rfl
  have N0 := Fr.nil n0
  have K0 : ∀ t, Steps p.tables e below (s₁.setTop (mkF m 0 #[.val (.ref a1), .val (.int (3 : Int32))] [])) t → Steps p.tables e below (s₁.setTop (entryFrame m #[(.ref a1), (.int (3 : Int32))] 2)) t := fun t k => castTop (ef_rmAI3 m a1 (3 : Int32)) k
  have KK0 : Keep h0 h0 [a1] := Keep.refl _ _
  
  have K101 : ∀ t, Steps p.tables e below (s₁.setTop (mkF m 1 #[.val (.ref a1), .val (.int (3 : Int32))] [(.ref a1)])) t → Steps p.tables e below (s₁.setTop (entryFrame m #[(.ref a1), (.int (3 : Int32))] 2)) t := by
    intro t kt
    refine K0 t ?_
    show Steps p.tables e below (s₁.setTop (mkF m 0 #[.val (.ref a1), .val (.int (3 : Int32))] [])) _
    refine XS.aloadN X0.here hx rfl (hb hby d8_0) rfl rfl ?_
    exact kt
  obtain ⟨_, _, ⟨T102, L102, k102, n102⟩, -, X102, ⟨Lc102, hQ102, l102, y102, z102⟩, st102⟩ := X0.specialBack hx (y := (⟨"java/util/AbstractList", "<init>", "()V"⟩ : MethodName)) rfl hown (mvT hZ (hw _ (List.mem_of_getElem? (i := 47) rfl))) (mvT hZ (hw _ (List.mem_of_getElem? (i := 48) rfl))) (mvT hZ (hw _ (List.mem_of_getElem? (i := 52) rfl))) (by decide) (backOf (W := 0) (rmBL l Z a0 hw [] a1 h0 n0 Z0 E1 F1 F2 F3 g1) hZ (hw _ (List.mem_of_getElem? (i := 52) rfl)) (hw _ (List.mem_of_getElem? (i := 51) rfl)) (by decide) (by decide)) (g := (mkF m 1 #[.val (.ref a1), .val (.int (3 : Int32))] [(.ref a1)])) rfl (by rw [hml]; rfl) (Steps.refl _) (a := a1) (argsL := []) (rest := []) (lenOf pd_2 rfl) rfl (by show 2 * 0 + _ ≤ _; exact Nat.le_of_eq rfl) (hb hby d8_1) (fun _ _ => ⟨rfl, e0, (by decide : 0 + 0 ≤ _), (by decide : 0 + 0 ≤ _)⟩)
  dsimp only [Pt.U, Pt.locs, Pt.cells, Pt.slots] at X102 l102 y102 z102 st102 hQ102
  subst l102 y102 z102
  obtain ⟨rfl, Nq102, Kq102, M102, D102, S102⟩ := hQ102
  have f103 := Nat.le_trans Z0 Kq102.1
  have f104 := KK0.trans Kq102 (allS (Or.inl (List.mem_of_getElem? (i := 0) rfl)) all0)
  have f105 := E1.keep Kq102
  have N102 := Fr.app N0 Nq102
  have K106 : ∀ t, Steps p.tables e below (T102.setTop (mkF m 4 #[.val (.ref a1), .val (.int (3 : Int32))] [])) t → Steps p.tables e below (s₁.setTop (entryFrame m #[(.ref a1), (.int (3 : Int32))] 2)) t := fun t kt => K101 t (st102.trans kt)
  have K107 : ∀ t, Steps p.tables e below (T102.setTop (mkF m 10 #[.val (.ref a1), .val (.int (3 : Int32))] [(.int (3 : Int32)), (.ref a1)])) t → Steps p.tables e below (s₁.setTop (entryFrame m #[(.ref a1), (.int (3 : Int32))] 2)) t := by
    intro t kt
    refine K106 t ?_
    show Steps p.tables e below (T102.setTop (mkF m 4 #[.val (.ref a1), .val (.int (3 : Int32))] [])) _
    refine XS.iloadN X102.here hx rfl (hb hby d8_4) rfl ?_
    show Steps p.tables e below (T102.setTop (mkF m 5 #[.val (.ref a1), .val (.int (3 : Int32))] [(.int (3 : Int32))])) _
    refine XS.ifNo X102.here hx rfl (hb hby d8_5) rfl ((if0 _ _).trans (tlt (by decide : (0 : Int32) < (3 : Int32))).2.2.2) ?_
    show Steps p.tables e below (T102.setTop (mkF m 8 #[.val (.ref a1), .val (.int (3 : Int32))] [])) _
    refine XS.aloadN X102.here hx rfl (hb hby d8_8) rfl rfl ?_
    show Steps p.tables e below (T102.setTop (mkF m 9 #[.val (.ref a1), .val (.int (3 : Int32))] [(.ref a1)])) _
    refine XS.iloadN X102.here hx rfl (hb hby d8_9) rfl ?_
    exact kt
  obtain ⟨T108, h108, k108, X108, e108, E108, A108, O108, st108⟩ := newR X102 hx hZ hown (hw _ (List.mem_of_getElem? (i := 62) rfl)) (hw _ (List.mem_of_getElem? (i := 63) rfl)) rfl (g := (mkF m 10 #[.val (.ref a1), .val (.int (3 : Int32))] [(.int (3 : Int32)), (.ref a1)])) rfl (hb hby d8_10) rfl (by decide) (cap := 3) (by decide) (by decide) (by decide) (by decide)
  obtain ⟨b108, g108⟩ : ∃ z, z = T102.heap.size := ⟨_, rfl⟩
  rw [← g108] at A108 st108
  have ne_a1_b108 : a1 ≠ b108 := by rw [g108]; exact Nat.ne_of_lt f105.lt
  have sz109 : h0.size ≤ b108 := Nat.le_trans f104.1 (Nat.le_of_eq g108.symm)
  have g_b108 : n0 ≤ b108 := Nat.le_trans f103 (Nat.le_of_eq g108.symm)
  have f110 := Nat.le_trans f103 E108.1
  have f111 := f104.ext E108
  have f112 := f105.ext E108
  have f113 := M102.ext E108
  have f114 := D102.ext E108
  have f115 := S102.ext E108
  have V108 : Arv Z h108 b108 k108 (.object "java/lang/Object") (3 : Int32) [.null, .null, .null] .null := (Arv.new A108 (by decide)).pad (pad_rep [] .null 3)
  have K116 : ∀ t, Steps p.tables e below (T108.setTop (mkF m 13 #[.val (.ref a1), .val (.int (3 : Int32))] [(.ref b108), (.ref a1)])) t → Steps p.tables e below (s₁.setTop (entryFrame m #[(.ref a1), (.int (3 : Int32))] 2)) t := fun t kt => K107 t (st108 t kt)
  obtain ⟨T117, h117, X117, e117, W117, st117⟩ := putF X108 hx hZ hown (host := "") (Or.inl (hw _ (List.mem_of_getElem? (i := 64) rfl))) Via.refl e108 f114 f112 (Or.inl (hw _ (List.mem_of_getElem? (i := 65) rfl))) (hw _ (List.mem_of_getElem? (i := 42) rfl)) (ty := (.array (.object "java/lang/Object"))) (by decide) rfl rfl (g := (mkF m 13 #[.val (.ref a1), .val (.int (3 : Int32))] [(.ref b108), (.ref a1)])) rfl rfl (hb hby d8_13)
  have f118 := Nat.le_trans f110 (Nat.le_of_eq W117.size.symm)
  have f119 := f111.wr W117 (Or.inl (List.mem_of_getElem? (i := 0) rfl))
  have f120 := f112.wr W117
  have f121 := f113.other W117 (Or.inr (slot_ne (Or.inl (hw _ (List.mem_of_getElem? (i := 61) rfl))) (Or.inl (hw _ (List.mem_of_getElem? (i := 65) rfl))) (by decide) (t := .int) (t' := (.array (.object "java/lang/Object"))) (by decide) (by decide)))
  have f122 := f115.other W117 (Or.inr (slot_ne (Or.inl (hw _ (List.mem_of_getElem? (i := 109) rfl))) (Or.inl (hw _ (List.mem_of_getElem? (i := 65) rfl))) (by decide) (t := .int) (t' := (.array (.object "java/lang/Object"))) (by decide) (by decide)))
  have f123 := V108.other W117 (Ne.symm ne_a1_b108)
  have F117 := f114.same W117
  have N117 := Fr.snoc X117 N102 g1
  have K124 : ∀ t, Steps p.tables e below (T117.setTop (mkF m 16 #[.val (.ref a1), .val (.int (3 : Int32))] [])) t → Steps p.tables e below (s₁.setTop (entryFrame m #[(.ref a1), (.int (3 : Int32))] 2)) t := fun t kt => K116 t (st117 t kt)
  have K125 : ∀ t, Steps p.tables e below (T117.setTop (mkF m 60 #[.val (.ref a1), .val (.int (3 : Int32))] [])) t → Steps p.tables e below (s₁.setTop (entryFrame m #[(.ref a1), (.int (3 : Int32))] 2)) t := by
    intro t kt
    refine K124 t ?_
    show Steps p.tables e below (T117.setTop (mkF m 16 #[.val (.ref a1), .val (.int (3 : Int32))] [])) _
    refine XS.goto X117.here hx rfl (pc0 := 16) (pc' := 60) rfl (hb hby d8_16) (by decide) (by decide) ?_
    exact kt
  obtain ⟨fs, hr, hrun, hended, hW, hsame⟩ := X117.leave (v := none) (fun _ => rfl) (hlocks := hlk)
  refine ⟨_, _, K125 _ ?_, hrun, hended, _, _, rfl, ?_, ⟨_, rfl⟩, hW, hsame.mono (by decide) (by decide)⟩
  · exact X117.returnOut hx Bd.returns (hb hby d8_60) hr
  · show QrmAI3 Z a1 h0 n0 _ T117.heap _
    rw [e117]
    exact ⟨rfl, N117, f119, b108, _, g_b108, sz109, O108, f121, F117, f122, f123⟩
theorem ef_rmAI0 (m : MethodId) (x0 : Addr) (x1 : Int32) : entryFrame m #[(.ref x0), (.int x1)] 2 = mkF m 0 #[.val (.ref x0), .val (.int x1)] [] := by first | (simp [entryFrame, mkF, argsToLocals, Value.category]; done) | rfl
def QrmAI0 (Z : State) (a1 : Addr) (h0 : Heap) (n0 : Nat) (v : Option Value) (h : Heap) (L : List Loc) : Prop := v = none ∧ Fr n0 L ∧ Keep h0 h [a1] ∧ Fld Z h a1 "java/util/ArrayList" "size" "I" (.int (0 : Int32))
set_option maxRecDepth 65536 in
set_option maxHeartbeats 40000000 in
theorem rmAI0 (l : Launch) (Z : State) (a0 : Array Value) (hw : ∀ d ∈ tables_1, d.before a0 Z = true) (ws : List Jvm.Cond) (a1 : Addr) (ae : Value) (h0 : Heap) (n0 : Nat) (Z0 : n0 ≤ h0.size) (E1 : Exa Z h0 a1 "java/util/ArrayList") (F1 : Fld Z h0 a1 "java/util/AbstractList" "modCount" "I" (.int (0 : Int32))) (F2 : Fld Z h0 a1 "java/util/ArrayList" "elementData" "[Ljava/lang/Object;" .null) (F3 : Fld Z h0 a1 "java/util/ArrayList" "size" "I" (.int (0 : Int32))) (g1 : n0 ≤ a1) (re : ae.isRef = true) (SE : Sta Z Z.heap "java/util/ArrayList" "EMPTY_ELEMENTDATA" "[Ljava/lang/Object;" ae) (X00 : Old Z n0 h0) :
    MetFree l (⟨"java/util/ArrayList", "<init>", "(I)V"⟩ : MethodName) (head1 (Jvm.Cond.code (⟨"java/util/ArrayList", "<init>", "(I)V"⟩ : MethodName) jdk_38_method_1_code 2 none :: ws) ({ frames := 3, cells := 0, slots := 0, locals := 36 } : Room)) (fun a U => a = #[(.ref a1), (.int (0 : Int32))] ∧ Z.Warmed39 U.vm ∧ U.heap = h0) (fun _ _ _ _ _ => True) (fun _ U o U' => ∃ v L, o = .returned v ∧ QrmAI0 Z a1 h0 n0 v U'.heap L ∧ FrameEnd U o U' L ({ frames := 3, cells := 0, slots := 0, locals := 36 } : Room).cells ({ frames := 3, cells := 0, slots := 0, locals := 36 } : Room).slots) := by
  refine MetFree.of_bodySF (plainFor_of_name pn_5) hisR ?_
  intro p e s m args below meth c s₁ Bd hml0 hP hK
  obtain ⟨rfl, hZ, hh⟩ := hP
  have hx := Bd.exec
  have hlk : meth.locks = false := BodyLoose.notSynchronized Bd
  have hby := Bd.bytes
  have hml : c.maxLocals = 2 := hml0
  have hown : s.vm.findClass "java/util/ArrayList" = some m.cls := findClass_of_methodNamed Bd.named
  have hnm := (name_of_methodNamed Bd.named Bd.method).1
  have X0 : Stand p l e ({ frames := 3, cells := 0, slots := 0, locals := 36 } : Room) s m #[(.ref a1), (.int (0 : Int32))] below meth c s₁ [] 0 0 := Stand.of_body Bd
  have e0 : s₁.heap = h0 := by rw [← hh, Bd.state]; rfl
  have N0 := Fr.nil n0
  have K0 : ∀ t, Steps p.tables e below (s₁.setTop (mkF m 0 #[.val (.ref a1), .val (.int (0 : Int32))] [])) t → Steps p.tables e below (s₁.setTop (entryFrame m #[(.ref a1), (.int (0 : Int32))] 2)) t := fun t k => castTop (ef_rmAI0 m a1 (0 : Int32)) k
  have KK0 : Keep h0 h0 [a1] := Keep.refl _ _
  
  have K101 : ∀ t, Steps p.tables e below (s₁.setTop (mkF m 1 #[.val (.ref a1), .val (.int (0 : Int32))] [(.ref a1)])) t → Steps p.tables e below (s₁.setTop (entryFrame m #[(.ref a1), (.int (0 : Int32))] 2)) t := by
    intro t kt
    refine K0 t ?_
    show Steps p.tables e below (s₁.setTop (mkF m 0 #[.val (.ref a1), .val (.int (0 : Int32))] [])) _
    refine XS.aloadN X0.here hx rfl (hb hby d8_0) rfl rfl ?_
    exact kt
  obtain ⟨_, _, ⟨T102, L102, k102, n102⟩, -, X102, ⟨Lc102, hQ102, l102, y102, z102⟩, st102⟩ := X0.specialBack hx (y := (⟨"java/util/AbstractList", "<init>", "()V"⟩ : MethodName)) rfl hown (mvT hZ (hw _ (List.mem_of_getElem? (i := 47) rfl))) (mvT hZ (hw _ (List.mem_of_getElem? (i := 48) rfl))) (mvT hZ (hw _ (List.mem_of_getElem? (i := 52) rfl))) (by decide) (backOf (W := 0) (rmBL l Z a0 hw [] a1 h0 n0 Z0 E1 F1 F2 F3 g1) hZ (hw _ (List.mem_of_getElem? (i := 52) rfl)) (hw _ (List.mem_of_getElem? (i := 51) rfl)) (by decide) (by decide)) (g := (mkF m 1 #[.val (.ref a1), .val (.int (0 : Int32))] [(.ref a1)])) rfl (by rw [hml]; rfl) (Steps.refl _) (a := a1) (argsL := []) (rest := []) (lenOf pd_2 rfl) rfl (by show 2 * 0 + _ ≤ _; exact Nat.le_of_eq rfl) (hb hby d8_1) (fun _ _ => ⟨rfl, e0, (by decide : 0 + 0 ≤ _), (by decide : 0 + 0 ≤ _)⟩)
  dsimp only [Pt.U, Pt.locs, Pt.cells, Pt.slots] at X102 l102 y102 z102 st102 hQ102
  subst l102 y102 z102
  obtain ⟨rfl, Nq102, Kq102, M102, D102, S102⟩ := hQ102
  have f103 := Nat.le_trans Z0 Kq102.1
  have f104 := KK0.trans Kq102 (allS (Or.inl (List.mem_of_getElem? (i := 0) rfl)) all0)
  have f105 := E1.keep Kq102
  have f106 := X00.keep Kq102 (allS g1 all0)
  have N102 := Fr.app N0 Nq102
  have K107 : ∀ t, Steps p.tables e below (T102.setTop (mkF m 4 #[.val (.ref a1), .val (.int (0 : Int32))] [])) t → Steps p.tables e below (s₁.setTop (entryFrame m #[(.ref a1), (.int (0 : Int32))] 2)) t := fun t kt => K101 t (st102.trans kt)
  have K108 : ∀ t, Steps p.tables e below (T102.setTop (mkF m 24 #[.val (.ref a1), .val (.int (0 : Int32))] [(.ref a1)])) t → Steps p.tables e below (s₁.setTop (entryFrame m #[(.ref a1), (.int (0 : Int32))] 2)) t := by
    intro t kt
    refine K107 t ?_
    show Steps p.tables e below (T102.setTop (mkF m 4 #[.val (.ref a1), .val (.int (0 : Int32))] [])) _
    refine XS.iloadN X102.here hx rfl (hb hby d8_4) rfl ?_
    show Steps p.tables e below (T102.setTop (mkF m 5 #[.val (.ref a1), .val (.int (0 : Int32))] [(.int (0 : Int32))])) _
    refine XS.ifYes X102.here hx rfl (pc0 := 5) (pc' := 19) rfl (hb hby d8_5) rfl ((if0 _ _).trans (flt (by decide : ¬ ((0 : Int32) < (0 : Int32)))).2.2.2) (by decide) (by decide) ?_
    show Steps p.tables e below (T102.setTop (mkF m 19 #[.val (.ref a1), .val (.int (0 : Int32))] [])) _
    refine XS.iloadN X102.here hx rfl (hb hby d8_19) rfl ?_
    show Steps p.tables e below (T102.setTop (mkF m 20 #[.val (.ref a1), .val (.int (0 : Int32))] [(.int (0 : Int32))])) _
    refine XS.ifNo X102.here hx rfl (hb hby d8_20) rfl ((if0 _ _).trans (teq (by decide : (0 : Int32) = (0 : Int32))).2) ?_
    show Steps p.tables e below (T102.setTop (mkF m 23 #[.val (.ref a1), .val (.int (0 : Int32))] [])) _
    refine XS.aloadN X102.here hx rfl (hb hby d8_23) rfl rfl ?_
    exact kt
  obtain ⟨T109, X109, e109, st109⟩ := getS2 X102 hx hZ hown (host := "") (Or.inl (hw _ (List.mem_of_getElem? (i := 181) rfl))) Via.refl rfl (SE.ext f106.2) (g := (mkF m 24 #[.val (.ref a1), .val (.int (0 : Int32))] [(.ref a1)])) rfl (hb hby d8_24)
  have K110 : ∀ t, Steps p.tables e below (T109.setTop (mkF m 27 #[.val (.ref a1), .val (.int (0 : Int32))] [ae, (.ref a1)])) t → Steps p.tables e below (s₁.setTop (entryFrame m #[(.ref a1), (.int (0 : Int32))] 2)) t := fun t kt => K108 t (st109 t kt)
  obtain ⟨T111, h111, X111, e111, W111, st111⟩ := putF X109 hx hZ hown (host := "") (Or.inl (hw _ (List.mem_of_getElem? (i := 64) rfl))) Via.refl e109 D102 f105 (Or.inl (hw _ (List.mem_of_getElem? (i := 65) rfl))) (hw _ (List.mem_of_getElem? (i := 42) rfl)) (ty := (.array (.object "java/lang/Object"))) (by decide) (own_narR rfl re) (own_fitsR rfl re) (g := (mkF m 27 #[.val (.ref a1), .val (.int (0 : Int32))] [ae, (.ref a1)])) rfl rfl (hb hby d8_27)
  have f112 := Nat.le_trans f103 (Nat.le_of_eq W111.size.symm)
  have f113 := f104.wr W111 (Or.inl (List.mem_of_getElem? (i := 0) rfl))
  have f114 := f105.wr W111
  have f115 := f106.wr W111 g1
  have f116 := M102.other W111 (Or.inr (slot_ne (Or.inl (hw _ (List.mem_of_getElem? (i := 61) rfl))) (Or.inl (hw _ (List.mem_of_getElem? (i := 65) rfl))) (by decide) (t := .int) (t' := (.array (.object "java/lang/Object"))) (by decide) (by decide)))
  have f117 := S102.other W111 (Or.inr (slot_ne (Or.inl (hw _ (List.mem_of_getElem? (i := 109) rfl))) (Or.inl (hw _ (List.mem_of_getElem? (i := 65) rfl))) (by decide) (t := .int) (t' := (.array (.object "java/lang/Object"))) (by decide) (by decide)))
  have F111 := D102.same W111
  have N111 := Fr.snoc X111 N102 g1
  have K118 : ∀ t, Steps p.tables e below (T111.setTop (mkF m 30 #[.val (.ref a1), .val (.int (0 : Int32))] [])) t → Steps p.tables e below (s₁.setTop (entryFrame m #[(.ref a1), (.int (0 : Int32))] 2)) t := fun t kt => K110 t (st111 t kt)
  have K119 : ∀ t, Steps p.tables e below (T111.setTop (mkF m 60 #[.val (.ref a1), .val (.int (0 : Int32))] [])) t → Steps p.tables e below (s₁.setTop (entryFrame m #[(.ref a1), (.int (0 : Int32))] 2)) t := by
    intro t kt
    refine K118 t ?_
    show Steps p.tables e below (T111.setTop (mkF m 30 #[.val (.ref a1), .val (.int (0 : Int32))] [])) _
    refine XS.goto X111.here hx rfl (pc0 := 30) (pc' := 60) rfl (hb hby d8_30) (by decide) (by decide) ?_
    exact kt
  obtain ⟨fs, hr, hrun, hended, hW, hsame⟩ := X111.leave (v := none) (fun _ => rfl) (hlocks := hlk)
  refine ⟨_, _, K119 _ ?_, hrun, hended, _, _, rfl, ?_, ⟨_, rfl⟩, hW, hsame.mono (by decide) (by decide)⟩
  · exact X111.returnOut hx Bd.returns (hb hby d8_60) hr
  · show QrmAI0 Z a1 h0 n0 _ T111.heap _
    rw [e111]
    exact ⟨rfl, N111, f113, f117⟩
theorem ef_rmAH0 (m : MethodId) (x0 : Addr) (x1 : Addr) (x2 : Addr) (x3 : Int32) : entryFrame m #[(.ref x0), (.ref x1), (.ref x2), (.int x3)] 4 = mkF m 0 #[.val (.ref x0), .val (.ref x1), .val (.ref x2), .val (.int x3)] [] := by first | (simp [entryFrame, mkF, argsToLocals, Value.category]; done) | rfl
def QrmAH0 (Z : State) (a1 a2 tq : Addr) (kk : ClassId) (md : Int32) (h0 : Heap) (n0 : Nat) (v : Option Value) (h : Heap) (L : List Loc) : Prop := v = none ∧ Fr n0 L ∧ Keep h0 h [a1, tq] ∧ Fld Z h a1 "java/util/AbstractList" "modCount" "I" (.int md) ∧ Fld Z h a1 "java/util/ArrayList" "elementData" "[Ljava/lang/Object;" (.ref tq) ∧ Fld Z h a1 "java/util/ArrayList" "size" "I" (.int (1 : Int32)) ∧ Arv Z h tq kk (.object "java/lang/Object") (3 : Int32) [(.ref a2), .null, .null] .null
set_option maxRecDepth 65536 in
set_option maxHeartbeats 40000000 in
theorem rmAH0 (l : Launch) (Z : State) (a0 : Array Value) (hw : ∀ d ∈ tables_1, d.before a0 Z = true) (ws : List Jvm.Cond) (a1 a2 tq : Addr) (kk : ClassId) (md : Int32) (h0 : Heap) (n0 : Nat) (Z0 : n0 ≤ h0.size) (E1 : Exa Z h0 a1 "java/util/ArrayList") (F1 : Fld Z h0 a1 "java/util/AbstractList" "modCount" "I" (.int md)) (F2 : Fld Z h0 a1 "java/util/ArrayList" "elementData" "[Ljava/lang/Object;" (.ref tq)) (F3 : Fld Z h0 a1 "java/util/ArrayList" "size" "I" (.int (0 : Int32))) (V1 : Arv Z h0 tq kk (.object "java/lang/Object") (3 : Int32) [.null, .null, .null] .null) (OV : Ovr Z kk "java/lang/Object") (g1 : n0 ≤ a1) (gt : n0 ≤ tq) (I2 : Ins Z h0 a2 "java/lang/Object" true) (w1 : a1 ≠ tq) :
    MetFree l (⟨"java/util/ArrayList", "add", "(Ljava/lang/Object;[Ljava/lang/Object;I)V"⟩ : MethodName) (head1 (Jvm.Cond.code (⟨"java/util/ArrayList", "add", "(Ljava/lang/Object;[Ljava/lang/Object;I)V"⟩ : MethodName) jdk_38_method_24_code 4 none :: ws) ({ frames := 0, cells := 0, slots := 0, locals := 0 } : Room)) (fun a U => a = #[(.ref a1), (.ref a2), (.ref tq), (.int (0 : Int32))] ∧ Z.Warmed39 U.vm ∧ U.heap = h0) (fun _ _ _ _ _ => True) (fun _ U o U' => ∃ v L, o = .returned v ∧ QrmAH0 Z a1 a2 tq kk md  h0 n0 v U'.heap L ∧ FrameEnd U o U' L ({ frames := 0, cells := 0, slots := 0, locals := 0 } : Room).cells ({ frames := 0, cells := 0, slots := 0, locals := 0 } : Room).slots) := by
  refine MetFree.of_bodySF (plainFor_of_name pn_5) hisR ?_
  intro p e s m args below meth c s₁ Bd hml0 hP hK
  obtain ⟨rfl, hZ, hh⟩ := hP
  have hx := Bd.exec
  have hlk : meth.locks = false := BodyLoose.notSynchronized Bd
  have hby := Bd.bytes
  have hml : c.maxLocals = 4 := hml0
  have hown : s.vm.findClass "java/util/ArrayList" = some m.cls := findClass_of_methodNamed Bd.named
  have hnm := (name_of_methodNamed Bd.named Bd.method).1
  have X0 : Stand p l e ({ frames := 0, cells := 0, slots := 0, locals := 0 } : Room) s m #[(.ref a1), (.ref a2), (.ref tq), (.int (0 : Int32))] below meth c s₁ [] 0 0 := Stand.of_body Bd
  have e0 : s₁.heap = h0 := by rw [← hh, Bd.state]; rfl
  have N0 := Fr.nil n0
  have K0 : ∀ t, Steps p.tables e below (s₁.setTop (mkF m 0 #[.val (.ref a1), .val (.ref a2), .val (.ref tq), .val (.int (0 : Int32))] [])) t → Steps p.tables e below (s₁.setTop (entryFrame m #[(.ref a1), (.ref a2), (.ref tq), (.int (0 : Int32))] 4)) t := fun t k => castTop (ef_rmAH0 m a1 a2 tq (0 : Int32)) k
  have KK0 : Keep h0 h0 [a1, tq] := Keep.refl _ _
  
  have K102 : ∀ t, Steps p.tables e below (s₁.setTop (mkF m 2 #[.val (.ref a1), .val (.ref a2), .val (.ref tq), .val (.int (0 : Int32))] [(.ref tq), (.int (0 : Int32))])) t → Steps p.tables e below (s₁.setTop (entryFrame m #[(.ref a1), (.ref a2), (.ref tq), (.int (0 : Int32))] 4)) t := by
    intro t kt
    refine K0 t ?_
    show Steps p.tables e below (s₁.setTop (mkF m 0 #[.val (.ref a1), .val (.ref a2), .val (.ref tq), .val (.int (0 : Int32))] [])) _
    refine XS.iloadN X0.here hx rfl (hb hby d16_0) rfl ?_
    show Steps p.tables e below (s₁.setTop (mkF m 1 #[.val (.ref a1), .val (.ref a2), .val (.ref tq), .val (.int (0 : Int32))] [(.int (0 : Int32))])) _
    refine XS.aloadN X0.here hx rfl (hb hby d16_1) rfl rfl ?_
    exact kt
  obtain ⟨cl101, Ar101, q101, S101, M101, H101, G101⟩ := id V1
  have K103 : ∀ t, Steps p.tables e below (s₁.setTop (mkF m 14 #[.val (.ref a1), .val (.ref a2), .val (.ref tq), .val (.int (0 : Int32))] [(.ref a2), (.int (0 : Int32)), (.ref tq)])) t → Steps p.tables e below (s₁.setTop (entryFrame m #[(.ref a1), (.ref a2), (.ref tq), (.int (0 : Int32))] 4)) t := by
    intro t kt
    refine K102 t ?_
    show Steps p.tables e below (s₁.setTop (mkF m 2 #[.val (.ref a1), .val (.ref a2), .val (.ref tq), .val (.int (0 : Int32))] [(.ref tq), (.int (0 : Int32))])) _
    refine X0.arraylength hx (by rw [e0]; exact Ar101.1) (State.isArrayOf_alike hZ.alike Ar101.2.1) (g := (mkF m 2 #[.val (.ref a1), .val (.ref a2), .val (.ref tq), .val (.int (0 : Int32))] [(.ref tq), (.int (0 : Int32))])) rfl rfl (hb hby d16_2) _ ?_
    rw [len_of S101 M101]
    show Steps p.tables e below (s₁.setTop (mkF m 3 #[.val (.ref a1), .val (.ref a2), .val (.ref tq), .val (.int (0 : Int32))] [(.int (3 : Int32)), (.int (0 : Int32))])) _
    refine XS.icmpYes X0.here hx rfl (pc0 := 3) (pc' := 11) rfl (hb hby d16_3) rfl (feq (by decide : ¬ ((0 : Int32) = (3 : Int32)))).2 (by decide) (by decide) ?_
    show Steps p.tables e below (s₁.setTop (mkF m 11 #[.val (.ref a1), .val (.ref a2), .val (.ref tq), .val (.int (0 : Int32))] [])) _
    refine XS.aloadN X0.here hx rfl (hb hby d16_11) rfl rfl ?_
    show Steps p.tables e below (s₁.setTop (mkF m 12 #[.val (.ref a1), .val (.ref a2), .val (.ref tq), .val (.int (0 : Int32))] [(.ref tq)])) _
    refine XS.iloadN X0.here hx rfl (hb hby d16_12) rfl ?_
    show Steps p.tables e below (s₁.setTop (mkF m 13 #[.val (.ref a1), .val (.ref a2), .val (.ref tq), .val (.int (0 : Int32))] [(.int (0 : Int32)), (.ref tq)])) _
    refine XS.aloadN X0.here hx rfl (hb hby d16_13) rfl rfl ?_
    exact kt
  obtain ⟨cl104, Ar104, q104, S104, M104, H104, G104⟩ := id V1
  have hin104 : ¬ ((0 : Int32) < 0 ∨ cl104.slots.size ≤ ((0 : Int32)).toNatClampNeg) := inb_of S104 ⟨by decide, by decide⟩
  have so104 := Sto.of Ar104 (by rw [q104]; exact OV) I2
  obtain ⟨T104, h104, X104, e104, W104, st104⟩ := stR X0 hx hZ e0 Ar104 (j := (0 : Int32)) hin104 rfl so104 (g := (mkF m 14 #[.val (.ref a1), .val (.ref a2), .val (.ref tq), .val (.int (0 : Int32))] [(.ref a2), (.int (0 : Int32)), (.ref tq)])) rfl rfl (hb hby d16_14)
  have f105 := Nat.le_trans Z0 (Nat.le_of_eq W104.size.symm)
  have f106 := KK0.wr W104 (Or.inl (List.mem_of_getElem? (i := 1) rfl))
  have f107 := E1.wr W104
  have f108 := F1.other W104 (Or.inl w1)
  have f109 := F2.other W104 (Or.inl w1)
  have f110 := F3.other W104 (Or.inl w1)
  have V104 : Arv Z h104 tq kk (.object "java/lang/Object") (3 : Int32) [(.ref a2), .null, .null] .null := Arv.set Ar104 q104 S104 M104 H104 G104 rfl W104 0 rfl (Nat.le_of_ble_eq_true rfl)
  have N104 := Fr.snoc X104 N0 gt
  have K111 : ∀ t, Steps p.tables e below (T104.setTop (mkF m 15 #[.val (.ref a1), .val (.ref a2), .val (.ref tq), .val (.int (0 : Int32))] [])) t → Steps p.tables e below (s₁.setTop (entryFrame m #[(.ref a1), (.ref a2), (.ref tq), (.int (0 : Int32))] 4)) t := fun t kt => K103 t (st104 t kt)
  have K112 : ∀ t, Steps p.tables e below (T104.setTop (mkF m 19 #[.val (.ref a1), .val (.ref a2), .val (.ref tq), .val (.int (0 : Int32))] [(.int ((0 : Int32) + (1 : Int32))), (.ref a1)])) t → Steps p.tables e below (s₁.setTop (entryFrame m #[(.ref a1), (.ref a2), (.ref tq), (.int (0 : Int32))] 4)) t := by
    intro t kt
    refine K111 t ?_
    show Steps p.tables e below (T104.setTop (mkF m 15 #[.val (.ref a1), .val (.ref a2), .val (.ref tq), .val (.int (0 : Int32))] [])) _
    refine XS.aloadN X104.here hx rfl (hb hby d16_15) rfl rfl ?_
    show Steps p.tables e below (T104.setTop (mkF m 16 #[.val (.ref a1), .val (.ref a2), .val (.ref tq), .val (.int (0 : Int32))] [(.ref a1)])) _
    refine XS.iloadN X104.here hx rfl (hb hby d16_16) rfl ?_
    show Steps p.tables e below (T104.setTop (mkF m 17 #[.val (.ref a1), .val (.ref a2), .val (.ref tq), .val (.int (0 : Int32))] [(.int (0 : Int32)), (.ref a1)])) _
    refine XS.iconst X104.here hx rfl (hb hby d16_17) ?_
    show Steps p.tables e below (T104.setTop (mkF m 18 #[.val (.ref a1), .val (.ref a2), .val (.ref tq), .val (.int (0 : Int32))] [(.int (1 : Int32)), (.int (0 : Int32)), (.ref a1)])) _
    refine XS.iadd X104.here hx rfl (hb hby d16_18) rfl ?_
    exact kt
  obtain ⟨T113, h113, X113, e113, W113, st113⟩ := putF X104 hx hZ hown (host := "") (Or.inl (hw _ (List.mem_of_getElem? (i := 108) rfl))) Via.refl e104 f110 f107 (Or.inl (hw _ (List.mem_of_getElem? (i := 109) rfl))) (hw _ (List.mem_of_getElem? (i := 42) rfl)) (ty := .int) (by decide) rfl rfl (g := (mkF m 19 #[.val (.ref a1), .val (.ref a2), .val (.ref tq), .val (.int (0 : Int32))] [(.int ((0 : Int32) + (1 : Int32))), (.ref a1)])) rfl rfl (hb hby d16_19)
  have f114 := Nat.le_trans f105 (Nat.le_of_eq W113.size.symm)
  have f115 := f106.wr W113 (Or.inl (List.mem_of_getElem? (i := 0) rfl))
  have f116 := f107.wr W113
  have f117 := f108.other W113 (Or.inr (slot_ne (Or.inl (hw _ (List.mem_of_getElem? (i := 61) rfl))) (Or.inl (hw _ (List.mem_of_getElem? (i := 109) rfl))) (by decide) (t := .int) (t' := .int) (by decide) (by decide)))
  have f118 := f109.other W113 (Or.inr (slot_ne (Or.inl (hw _ (List.mem_of_getElem? (i := 65) rfl))) (Or.inl (hw _ (List.mem_of_getElem? (i := 109) rfl))) (by decide) (t := (.array (.object "java/lang/Object"))) (t' := .int) (by decide) (by decide)))
  have f119 := V104.other W113 (Ne.symm w1)
  have F113 := f110.same W113
  have N113 := Fr.snoc X113 N104 g1
  have K120 : ∀ t, Steps p.tables e below (T113.setTop (mkF m 22 #[.val (.ref a1), .val (.ref a2), .val (.ref tq), .val (.int (0 : Int32))] [])) t → Steps p.tables e below (s₁.setTop (entryFrame m #[(.ref a1), (.ref a2), (.ref tq), (.int (0 : Int32))] 4)) t := fun t kt => K112 t (st113 t kt)
  have fS : Fld Z h113 a1 "java/util/ArrayList" "size" "I" (.int (1 : Int32)) := by
    have z := F113
    rw [(by decide : ((0 : Int32) + (1 : Int32)) = (1 : Int32))] at z
    exact z
  obtain ⟨fs, hr, hrun, hended, hW, hsame⟩ := X113.leave (v := none) (fun _ => rfl) (hlocks := hlk)
  refine ⟨_, _, K120 _ ?_, hrun, hended, _, _, rfl, ?_, ⟨_, rfl⟩, hW, hsame.mono (by decide) (by decide)⟩
  · exact X113.returnOut hx Bd.returns (hb hby d16_22) hr
  · show QrmAH0 Z a1 a2 tq kk md  h0 n0 _ T113.heap _
    rw [e113]
    exact ⟨rfl, N113, f115, f117, f118, fS, f119⟩
theorem ef_rmAD0 (m : MethodId) (x0 : Addr) (x1 : Addr) : entryFrame m #[(.ref x0), (.ref x1)] 2 = mkF m 0 #[.val (.ref x0), .val (.ref x1)] [] := by first | (simp [entryFrame, mkF, argsToLocals, Value.category]; done) | rfl
def QrmAD0 (Z : State) (a1 a2 tq : Addr) (kk : ClassId) (md : Int32) (h0 : Heap) (n0 : Nat) (v : Option Value) (h : Heap) (L : List Loc) : Prop := v = some (.int (1 : Int32)) ∧ Fr n0 L ∧ Keep h0 h [a1, tq] ∧ Fld Z h a1 "java/util/AbstractList" "modCount" "I" (.int (md + (1 : Int32))) ∧ Fld Z h a1 "java/util/ArrayList" "elementData" "[Ljava/lang/Object;" (.ref tq) ∧ Fld Z h a1 "java/util/ArrayList" "size" "I" (.int (1 : Int32)) ∧ Arv Z h tq kk (.object "java/lang/Object") (3 : Int32) [(.ref a2), .null, .null] .null
set_option maxRecDepth 65536 in
set_option maxHeartbeats 40000000 in
theorem rmAD0 (l : Launch) (Z : State) (a0 : Array Value) (hw : ∀ d ∈ tables_1, d.before a0 Z = true) (ws : List Jvm.Cond) (a1 a2 tq : Addr) (kk : ClassId) (md : Int32) (h0 : Heap) (n0 : Nat) (Z0 : n0 ≤ h0.size) (E1 : Exa Z h0 a1 "java/util/ArrayList") (F1 : Fld Z h0 a1 "java/util/AbstractList" "modCount" "I" (.int md)) (F2 : Fld Z h0 a1 "java/util/ArrayList" "elementData" "[Ljava/lang/Object;" (.ref tq)) (F3 : Fld Z h0 a1 "java/util/ArrayList" "size" "I" (.int (0 : Int32))) (V1 : Arv Z h0 tq kk (.object "java/lang/Object") (3 : Int32) [.null, .null, .null] .null) (OV : Ovr Z kk "java/lang/Object") (g1 : n0 ≤ a1) (gt : n0 ≤ tq) (I2 : Ins Z h0 a2 "java/lang/Object" true) (w1 : a1 ≠ tq) :
    MetFree l (⟨"java/util/ArrayList", "add", "(Ljava/lang/Object;)Z"⟩ : MethodName) (head1 (Jvm.Cond.code (⟨"java/util/ArrayList", "add", "(Ljava/lang/Object;)Z"⟩ : MethodName) jdk_38_method_25_code 2 (some .boolean) :: ws) ({ frames := 1, cells := 0, slots := 0, locals := 15 } : Room)) (fun a U => a = #[(.ref a1), (.ref a2)] ∧ Z.Warmed39 U.vm ∧ U.heap = h0) (fun _ _ _ _ _ => True) (fun _ U o U' => ∃ v L, o = .returned v ∧ QrmAD0 Z a1 a2 tq kk md  h0 n0 v U'.heap L ∧ FrameEnd U o U' L ({ frames := 1, cells := 0, slots := 0, locals := 15 } : Room).cells ({ frames := 1, cells := 0, slots := 0, locals := 15 } : Room).slots) := by
  refine MetFree.of_bodySF (plainFor_of_name pn_5) hisR ?_
  intro p e s m args below meth c s₁ Bd hml0 hP hK
  obtain ⟨rfl, hZ, hh⟩ := hP
  have hx := Bd.exec
  have hlk : meth.locks = false := BodyLoose.notSynchronized Bd
  have hby := Bd.bytes
  have hml : c.maxLocals = 2 := hml0
  have hown : s.vm.findClass "java/util/ArrayList" = some m.cls := findClass_of_methodNamed Bd.named
  have hnm := (name_of_methodNamed Bd.named Bd.method).1
  have X0 : Stand p l e ({ frames := 1, cells := 0, slots := 0, locals := 15 } : Room) s m #[(.ref a1), (.ref a2)] below meth c s₁ [] 0 0 := Stand.of_body Bd
  have e0 : s₁.heap = h0 := by rw [← hh, Bd.state]; rfl
  have N0 := Fr.nil n0
  have K0 : ∀ t, Steps p.tables e below (s₁.setTop (mkF m 0 #[.val (.ref a1), .val (.ref a2)] [])) t → Steps p.tables e below (s₁.setTop (entryFrame m #[(.ref a1), (.ref a2)] 2)) t := fun t k => castTop (ef_rmAD0 m a1 a2) k
  have KK0 : Keep h0 h0 [a1, tq] := Keep.refl _ _
  
  have K101 : ∀ t, Steps p.tables e below (s₁.setTop (mkF m 2 #[.val (.ref a1), .val (.ref a2)] [(.ref a1), (.ref a1)])) t → Steps p.tables e below (s₁.setTop (entryFrame m #[(.ref a1), (.ref a2)] 2)) t := by
    intro t kt
    refine K0 t ?_
    show Steps p.tables e below (s₁.setTop (mkF m 0 #[.val (.ref a1), .val (.ref a2)] [])) _
    refine XS.aloadN X0.here hx rfl (hb hby d15_0) rfl rfl ?_
    show Steps p.tables e below (s₁.setTop (mkF m 1 #[.val (.ref a1), .val (.ref a2)] [(.ref a1)])) _
    refine XS.dup X0.here hx rfl (hb hby d15_1) rfl rfl ?_
    exact kt
  obtain ⟨T102, X102, e102, st102⟩ := getF X0 hx hZ hown (host := "") (Or.inl (hw _ (List.mem_of_getElem? (i := 106) rfl))) (Via.of (hw _ (List.mem_of_getElem? (i := 107) rfl))) e0 F1 (g := (mkF m 2 #[.val (.ref a1), .val (.ref a2)] [(.ref a1), (.ref a1)])) rfl rfl (hb hby d15_2)
  have K103 : ∀ t, Steps p.tables e below (T102.setTop (mkF m 5 #[.val (.ref a1), .val (.ref a2)] [(.int md), (.ref a1)])) t → Steps p.tables e below (s₁.setTop (entryFrame m #[(.ref a1), (.ref a2)] 2)) t := fun t kt => K101 t (st102 t kt)
  have K104 : ∀ t, Steps p.tables e below (T102.setTop (mkF m 7 #[.val (.ref a1), .val (.ref a2)] [(.int (md + (1 : Int32))), (.ref a1)])) t → Steps p.tables e below (s₁.setTop (entryFrame m #[(.ref a1), (.ref a2)] 2)) t := by
    intro t kt
    refine K103 t ?_
    show Steps p.tables e below (T102.setTop (mkF m 5 #[.val (.ref a1), .val (.ref a2)] [(.int md), (.ref a1)])) _
    refine XS.iconst X102.here hx rfl (hb hby d15_5) ?_
    show Steps p.tables e below (T102.setTop (mkF m 6 #[.val (.ref a1), .val (.ref a2)] [(.int (1 : Int32)), (.int md), (.ref a1)])) _
    refine XS.iadd X102.here hx rfl (hb hby d15_6) rfl ?_
    exact kt
  obtain ⟨T105, h105, X105, e105, W105, st105⟩ := putF X102 hx hZ hown (host := "") (Or.inl (hw _ (List.mem_of_getElem? (i := 106) rfl))) (Via.of (hw _ (List.mem_of_getElem? (i := 107) rfl))) e102 F1 E1 (Or.inl (hw _ (List.mem_of_getElem? (i := 61) rfl))) (hw _ (List.mem_of_getElem? (i := 42) rfl)) (ty := .int) (by decide) rfl rfl (g := (mkF m 7 #[.val (.ref a1), .val (.ref a2)] [(.int (md + (1 : Int32))), (.ref a1)])) rfl rfl (hb hby d15_7)
  have f106 := Nat.le_trans Z0 (Nat.le_of_eq W105.size.symm)
  have f107 := KK0.wr W105 (Or.inl (List.mem_of_getElem? (i := 0) rfl))
  have f108 := E1.wr W105
  have f109 := F2.other W105 (Or.inr (slot_ne (Or.inl (hw _ (List.mem_of_getElem? (i := 65) rfl))) (Or.inl (hw _ (List.mem_of_getElem? (i := 61) rfl))) (by decide) (t := (.array (.object "java/lang/Object"))) (t' := .int) (by decide) (by decide)))
  have f110 := F3.other W105 (Or.inr (slot_ne (Or.inl (hw _ (List.mem_of_getElem? (i := 109) rfl))) (Or.inl (hw _ (List.mem_of_getElem? (i := 61) rfl))) (by decide) (t := .int) (t' := .int) (by decide) (by decide)))
  have f111 := V1.other W105 (Ne.symm w1)
  have f112 := I2.wr W105
  have F105 := F1.same W105
  have N105 := Fr.snoc X105 N0 g1
  have K113 : ∀ t, Steps p.tables e below (T105.setTop (mkF m 10 #[.val (.ref a1), .val (.ref a2)] [])) t → Steps p.tables e below (s₁.setTop (entryFrame m #[(.ref a1), (.ref a2)] 2)) t := fun t kt => K104 t (st105 t kt)
  have K114 : ∀ t, Steps p.tables e below (T105.setTop (mkF m 13 #[.val (.ref a1), .val (.ref a2)] [(.ref a1), (.ref a2), (.ref a1)])) t → Steps p.tables e below (s₁.setTop (entryFrame m #[(.ref a1), (.ref a2)] 2)) t := by
    intro t kt
    refine K113 t ?_
    show Steps p.tables e below (T105.setTop (mkF m 10 #[.val (.ref a1), .val (.ref a2)] [])) _
    refine XS.aloadN X105.here hx rfl (hb hby d15_10) rfl rfl ?_
    show Steps p.tables e below (T105.setTop (mkF m 11 #[.val (.ref a1), .val (.ref a2)] [(.ref a1)])) _
    refine XS.aloadN X105.here hx rfl (hb hby d15_11) rfl rfl ?_
    show Steps p.tables e below (T105.setTop (mkF m 12 #[.val (.ref a1), .val (.ref a2)] [(.ref a2), (.ref a1)])) _
    refine XS.aloadN X105.here hx rfl (hb hby d15_12) rfl rfl ?_
    exact kt
  obtain ⟨T115, X115, e115, st115⟩ := getF X105 hx hZ hown (host := "") (Or.inl (hw _ (List.mem_of_getElem? (i := 64) rfl))) Via.refl e105 f109 (g := (mkF m 13 #[.val (.ref a1), .val (.ref a2)] [(.ref a1), (.ref a2), (.ref a1)])) rfl rfl (hb hby d15_13)
  have K116 : ∀ t, Steps p.tables e below (T115.setTop (mkF m 16 #[.val (.ref a1), .val (.ref a2)] [(.ref tq), (.ref a2), (.ref a1)])) t → Steps p.tables e below (s₁.setTop (entryFrame m #[(.ref a1), (.ref a2)] 2)) t := fun t kt => K114 t (st115 t kt)
  have K117 : ∀ t, Steps p.tables e below (T115.setTop (mkF m 17 #[.val (.ref a1), .val (.ref a2)] [(.ref a1), (.ref tq), (.ref a2), (.ref a1)])) t → Steps p.tables e below (s₁.setTop (entryFrame m #[(.ref a1), (.ref a2)] 2)) t := by
    intro t kt
    refine K116 t ?_
    show Steps p.tables e below (T115.setTop (mkF m 16 #[.val (.ref a1), .val (.ref a2)] [(.ref tq), (.ref a2), (.ref a1)])) _
    refine XS.aloadN X115.here hx rfl (hb hby d15_16) rfl rfl ?_
    exact kt
  obtain ⟨T118, X118, e118, st118⟩ := getF X115 hx hZ hown (host := "") (Or.inl (hw _ (List.mem_of_getElem? (i := 108) rfl))) Via.refl e115 f110 (g := (mkF m 17 #[.val (.ref a1), .val (.ref a2)] [(.ref a1), (.ref tq), (.ref a2), (.ref a1)])) rfl rfl (hb hby d15_17)
  have K119 : ∀ t, Steps p.tables e below (T118.setTop (mkF m 20 #[.val (.ref a1), .val (.ref a2)] [(.int (0 : Int32)), (.ref tq), (.ref a2), (.ref a1)])) t → Steps p.tables e below (s₁.setTop (entryFrame m #[(.ref a1), (.ref a2)] 2)) t := fun t kt => K117 t (st118 t kt)
  obtain ⟨cq120, q120, q120'⟩ := Exa.cell f108
  obtain ⟨_, _, ⟨T120, L120, k120, n120⟩, -, X120, ⟨Lc120, hQ120, l120, y120, z120⟩, st120⟩ := X118.privateBack hx (y := (⟨"java/util/ArrayList", "add", "(Ljava/lang/Object;[Ljava/lang/Object;I)V"⟩ : MethodName)) hown (mvT hZ (hw _ (List.mem_of_getElem? (i := 110) rfl))) (mvT hZ (hw _ (List.mem_of_getElem? (i := 111) rfl))) (mvT hZ (hw _ (List.mem_of_getElem? (i := 113) rfl))) (Cond.privateMethod_at (mvP hZ (hw _ (List.mem_of_getElem? (i := 112) rfl)) (args := #[]))) (mvT hZ (hw _ (List.mem_of_getElem? (i := 114) rfl))) (by decide) (backOf (W := 0) (rmAH0 l Z a0 hw [] a1 a2 tq kk (md + (1 : Int32))  h105 n0 f106 f108 F105 f109 f110 f111 OV g1 gt f112 w1) hZ (hw _ (List.mem_of_getElem? (i := 114) rfl)) (hw _ (List.mem_of_getElem? (i := 43) rfl)) (by decide) (by decide)) (g := (mkF m 20 #[.val (.ref a1), .val (.ref a2)] [(.int (0 : Int32)), (.ref tq), (.ref a2), (.ref a1)])) rfl (by rw [hml]; rfl) (Steps.refl _) (a := a1) (by rw [e118]; exact q120) q120' (argsL := [(.ref a2), (.ref tq), (.int (0 : Int32))]) (rest := []) (lenOf pd_6 rfl) rfl (by show 2 * 0 + _ ≤ _; exact Nat.le_of_eq rfl) (hb hby d15_20) (fun _ _ => ⟨rfl, e118, (by decide : 0 + 0 ≤ _), (by decide : 0 + 0 ≤ _)⟩)
  dsimp only [Pt.U, Pt.locs, Pt.cells, Pt.slots] at X120 l120 y120 z120 st120 hQ120
  subst l120 y120 z120
  obtain ⟨rfl, Nq120, Kq120, M120, D120, S120, W120⟩ := hQ120
  have f121 := Nat.le_trans f106 Kq120.1
  have f122 := f107.trans Kq120 (allS (Or.inl (List.mem_of_getElem? (i := 0) rfl)) (allS (Or.inl (List.mem_of_getElem? (i := 1) rfl)) all0))
  have f123 := f108.keep Kq120
  have N120 := Fr.app N105 Nq120
  have K124 : ∀ t, Steps p.tables e below (T120.setTop (mkF m 23 #[.val (.ref a1), .val (.ref a2)] [])) t → Steps p.tables e below (s₁.setTop (entryFrame m #[(.ref a1), (.ref a2)] 2)) t := fun t kt => K119 t (st120.trans kt)
  have K125 : ∀ t, Steps p.tables e below (T120.setTop (mkF m 24 #[.val (.ref a1), .val (.ref a2)] [(.int (1 : Int32))])) t → Steps p.tables e below (s₁.setTop (entryFrame m #[(.ref a1), (.ref a2)] 2)) t := by
    intro t kt
    refine K124 t ?_
    show Steps p.tables e below (T120.setTop (mkF m 23 #[.val (.ref a1), .val (.ref a2)] [])) _
    refine XS.iconst X120.here hx rfl (hb hby d15_23) ?_
    exact kt
  obtain ⟨fs, hr, hrun, hended, hW, hsame⟩ := X120.leave (v := some (.int (1 : Int32))) (fun h => by rw [Bd.returns] at h; cases h) (hlocks := hlk)
  refine ⟨_, _, K125 _ ?_, hrun, hended, _, _, rfl, ?_, ⟨_, rfl⟩, hW, hsame.mono (by decide) (by decide)⟩
  · exact retN X120 hx (t := .boolean) Bd.returns (by simp) (hb hby d15_24) hr
  · show QrmAD0 Z a1 a2 tq kk md  h0 n0 _ T120.heap _
    exact ⟨rfl, N120, f122, M120, D120, S120, W120⟩
theorem ef_rmAH1 (m : MethodId) (x0 : Addr) (x1 : Addr) (x2 : Addr) (x3 : Int32) : entryFrame m #[(.ref x0), (.ref x1), (.ref x2), (.int x3)] 4 = mkF m 0 #[.val (.ref x0), .val (.ref x1), .val (.ref x2), .val (.int x3)] [] := by first | (simp [entryFrame, mkF, argsToLocals, Value.category]; done) | rfl
def QrmAH1 (Z : State) (a1 a2 tq : Addr) (kk : ClassId) (md : Int32) (el0 : Addr) (h0 : Heap) (n0 : Nat) (v : Option Value) (h : Heap) (L : List Loc) : Prop := v = none ∧ Fr n0 L ∧ Keep h0 h [a1, tq] ∧ Fld Z h a1 "java/util/AbstractList" "modCount" "I" (.int md) ∧ Fld Z h a1 "java/util/ArrayList" "elementData" "[Ljava/lang/Object;" (.ref tq) ∧ Fld Z h a1 "java/util/ArrayList" "size" "I" (.int (2 : Int32)) ∧ Arv Z h tq kk (.object "java/lang/Object") (3 : Int32) [(.ref el0), (.ref a2), .null] .null
set_option maxRecDepth 65536 in
set_option maxHeartbeats 40000000 in
theorem rmAH1 (l : Launch) (Z : State) (a0 : Array Value) (hw : ∀ d ∈ tables_1, d.before a0 Z = true) (ws : List Jvm.Cond) (a1 a2 tq : Addr) (kk : ClassId) (md : Int32) (el0 : Addr) (h0 : Heap) (n0 : Nat) (Z0 : n0 ≤ h0.size) (E1 : Exa Z h0 a1 "java/util/ArrayList") (F1 : Fld Z h0 a1 "java/util/AbstractList" "modCount" "I" (.int md)) (F2 : Fld Z h0 a1 "java/util/ArrayList" "elementData" "[Ljava/lang/Object;" (.ref tq)) (F3 : Fld Z h0 a1 "java/util/ArrayList" "size" "I" (.int (1 : Int32))) (V1 : Arv Z h0 tq kk (.object "java/lang/Object") (3 : Int32) [(.ref el0), .null, .null] .null) (OV : Ovr Z kk "java/lang/Object") (g1 : n0 ≤ a1) (gt : n0 ≤ tq) (I2 : Ins Z h0 a2 "java/lang/Object" true) (w1 : a1 ≠ tq) :
    MetFree l (⟨"java/util/ArrayList", "add", "(Ljava/lang/Object;[Ljava/lang/Object;I)V"⟩ : MethodName) (head1 (Jvm.Cond.code (⟨"java/util/ArrayList", "add", "(Ljava/lang/Object;[Ljava/lang/Object;I)V"⟩ : MethodName) jdk_38_method_24_code 4 none :: ws) ({ frames := 0, cells := 0, slots := 0, locals := 0 } : Room)) (fun a U => a = #[(.ref a1), (.ref a2), (.ref tq), (.int (1 : Int32))] ∧ Z.Warmed39 U.vm ∧ U.heap = h0) (fun _ _ _ _ _ => True) (fun _ U o U' => ∃ v L, o = .returned v ∧ QrmAH1 Z a1 a2 tq kk md el0 h0 n0 v U'.heap L ∧ FrameEnd U o U' L ({ frames := 0, cells := 0, slots := 0, locals := 0 } : Room).cells ({ frames := 0, cells := 0, slots := 0, locals := 0 } : Room).slots) := by
  refine MetFree.of_bodySF (plainFor_of_name pn_5) hisR ?_
  intro p e s m args below meth c s₁ Bd hml0 hP hK
  obtain ⟨rfl, hZ, hh⟩ := hP
  have hx := Bd.exec
  have hlk : meth.locks = false := BodyLoose.notSynchronized Bd
  have hby := Bd.bytes
  have hml : c.maxLocals = 4 := hml0
  have hown : s.vm.findClass "java/util/ArrayList" = some m.cls := findClass_of_methodNamed Bd.named
  have hnm := (name_of_methodNamed Bd.named Bd.method).1
  have X0 : Stand p l e ({ frames := 0, cells := 0, slots := 0, locals := 0 } : Room) s m #[(.ref a1), (.ref a2), (.ref tq), (.int (1 : Int32))] below meth c s₁ [] 0 0 := Stand.of_body Bd
  have e0 : s₁.heap = h0 := by rw [← hh, Bd.state]; rfl
  have N0 := Fr.nil n0
  have K0 : ∀ t, Steps p.tables e below (s₁.setTop (mkF m 0 #[.val (.ref a1), .val (.ref a2), .val (.ref tq), .val (.int (1 : Int32))] [])) t → Steps p.tables e below (s₁.setTop (entryFrame m #[(.ref a1), (.ref a2), (.ref tq), (.int (1 : Int32))] 4)) t := fun t k => castTop (ef_rmAH1 m a1 a2 tq (1 : Int32)) k
  have KK0 : Keep h0 h0 [a1, tq] := Keep.refl _ _
  
  have K102 : ∀ t, Steps p.tables e below (s₁.setTop (mkF m 2 #[.val (.ref a1), .val (.ref a2), .val (.ref tq), .val (.int (1 : Int32))] [(.ref tq), (.int (1 : Int32))])) t → Steps p.tables e below (s₁.setTop (entryFrame m #[(.ref a1), (.ref a2), (.ref tq), (.int (1 : Int32))] 4)) t := by
    intro t kt
    refine K0 t ?_
    show Steps p.tables e below (s₁.setTop (mkF m 0 #[.val (.ref a1), .val (.ref a2), .val (.ref tq), .val (.int (1 : Int32))] [])) _
    refine XS.iloadN X0.here hx rfl (hb hby d16_0) rfl ?_
    show Steps p.tables e below (s₁.setTop (mkF m 1 #[.val (.ref a1), .val (.ref a2), .val (.ref tq), .val (.int (1 : Int32))] [(.int (1 : Int32))])) _
    refine XS.aloadN X0.here hx rfl (hb hby d16_1) rfl rfl ?_
    exact kt
  obtain ⟨cl101, Ar101, q101, S101, M101, H101, G101⟩ := id V1
  have K103 : ∀ t, Steps p.tables e below (s₁.setTop (mkF m 14 #[.val (.ref a1), .val (.ref a2), .val (.ref tq), .val (.int (1 : Int32))] [(.ref a2), (.int (1 : Int32)), (.ref tq)])) t → Steps p.tables e below (s₁.setTop (entryFrame m #[(.ref a1), (.ref a2), (.ref tq), (.int (1 : Int32))] 4)) t := by
    intro t kt
    refine K102 t ?_
    show Steps p.tables e below (s₁.setTop (mkF m 2 #[.val (.ref a1), .val (.ref a2), .val (.ref tq), .val (.int (1 : Int32))] [(.ref tq), (.int (1 : Int32))])) _
    refine X0.arraylength hx (by rw [e0]; exact Ar101.1) (State.isArrayOf_alike hZ.alike Ar101.2.1) (g := (mkF m 2 #[.val (.ref a1), .val (.ref a2), .val (.ref tq), .val (.int (1 : Int32))] [(.ref tq), (.int (1 : Int32))])) rfl rfl (hb hby d16_2) _ ?_
    rw [len_of S101 M101]
    show Steps p.tables e below (s₁.setTop (mkF m 3 #[.val (.ref a1), .val (.ref a2), .val (.ref tq), .val (.int (1 : Int32))] [(.int (3 : Int32)), (.int (1 : Int32))])) _
    refine XS.icmpYes X0.here hx rfl (pc0 := 3) (pc' := 11) rfl (hb hby d16_3) rfl (feq (by decide : ¬ ((1 : Int32) = (3 : Int32)))).2 (by decide) (by decide) ?_
    show Steps p.tables e below (s₁.setTop (mkF m 11 #[.val (.ref a1), .val (.ref a2), .val (.ref tq), .val (.int (1 : Int32))] [])) _
    refine XS.aloadN X0.here hx rfl (hb hby d16_11) rfl rfl ?_
    show Steps p.tables e below (s₁.setTop (mkF m 12 #[.val (.ref a1), .val (.ref a2), .val (.ref tq), .val (.int (1 : Int32))] [(.ref tq)])) _
    refine XS.iloadN X0.here hx rfl (hb hby d16_12) rfl ?_
    show Steps p.tables e below (s₁.setTop (mkF m 13 #[.val (.ref a1), .val (.ref a2), .val (.ref tq), .val (.int (1 : Int32))] [(.int (1 : Int32)), (.ref tq)])) _
    refine XS.aloadN X0.here hx rfl (hb hby d16_13) rfl rfl ?_
    exact kt
  obtain ⟨cl104, Ar104, q104, S104, M104, H104, G104⟩ := id V1
  have hin104 : ¬ ((1 : Int32) < 0 ∨ cl104.slots.size ≤ ((1 : Int32)).toNatClampNeg) := inb_of S104 ⟨by decide, by decide⟩
  have so104 := Sto.of Ar104 (by rw [q104]; exact OV) I2
  obtain ⟨T104, h104, X104, e104, W104, st104⟩ := stR X0 hx hZ e0 Ar104 (j := (1 : Int32)) hin104 rfl so104 (g := (mkF m 14 #[.val (.ref a1), .val (.ref a2), .val (.ref tq), .val (.int (1 : Int32))] [(.ref a2), (.int (1 : Int32)), (.ref tq)])) rfl rfl (hb hby d16_14)
  have f105 := Nat.le_trans Z0 (Nat.le_of_eq W104.size.symm)
  have f106 := KK0.wr W104 (Or.inl (List.mem_of_getElem? (i := 1) rfl))
  have f107 := E1.wr W104
  have f108 := F1.other W104 (Or.inl w1)
  have f109 := F2.other W104 (Or.inl w1)
  have f110 := F3.other W104 (Or.inl w1)
  have V104 : Arv Z h104 tq kk (.object "java/lang/Object") (3 : Int32) [(.ref el0), (.ref a2), .null] .null := Arv.set Ar104 q104 S104 M104 H104 G104 rfl W104 1 rfl (Nat.le_of_ble_eq_true rfl)
  have N104 := Fr.snoc X104 N0 gt
  have K111 : ∀ t, Steps p.tables e below (T104.setTop (mkF m 15 #[.val (.ref a1), .val (.ref a2), .val (.ref tq), .val (.int (1 : Int32))] [])) t → Steps p.tables e below (s₁.setTop (entryFrame m #[(.ref a1), (.ref a2), (.ref tq), (.int (1 : Int32))] 4)) t := fun t kt => K103 t (st104 t kt)
  have K112 : ∀ t, Steps p.tables e below (T104.setTop (mkF m 19 #[.val (.ref a1), .val (.ref a2), .val (.ref tq), .val (.int (1 : Int32))] [(.int ((1 : Int32) + (1 : Int32))), (.ref a1)])) t → Steps p.tables e below (s₁.setTop (entryFrame m #[(.ref a1), (.ref a2), (.ref tq), (.int (1 : Int32))] 4)) t := by
    intro t kt
    refine K111 t ?_
    show Steps p.tables e below (T104.setTop (mkF m 15 #[.val (.ref a1), .val (.ref a2), .val (.ref tq), .val (.int (1 : Int32))] [])) _
    refine XS.aloadN X104.here hx rfl (hb hby d16_15) rfl rfl ?_
    show Steps p.tables e below (T104.setTop (mkF m 16 #[.val (.ref a1), .val (.ref a2), .val (.ref tq), .val (.int (1 : Int32))] [(.ref a1)])) _
    refine XS.iloadN X104.here hx rfl (hb hby d16_16) rfl ?_
    show Steps p.tables e below (T104.setTop (mkF m 17 #[.val (.ref a1), .val (.ref a2), .val (.ref tq), .val (.int (1 : Int32))] [(.int (1 : Int32)), (.ref a1)])) _
    refine XS.iconst X104.here hx rfl (hb hby d16_17) ?_
    show Steps p.tables e below (T104.setTop (mkF m 18 #[.val (.ref a1), .val (.ref a2), .val (.ref tq), .val (.int (1 : Int32))] [(.int (1 : Int32)), (.int (1 : Int32)), (.ref a1)])) _
    refine XS.iadd X104.here hx rfl (hb hby d16_18) rfl ?_
    exact kt
  obtain ⟨T113, h113, X113, e113, W113, st113⟩ := putF X104 hx hZ hown (host := "") (Or.inl (hw _ (List.mem_of_getElem? (i := 108) rfl))) Via.refl e104 f110 f107 (Or.inl (hw _ (List.mem_of_getElem? (i := 109) rfl))) (hw _ (List.mem_of_getElem? (i := 42) rfl)) (ty := .int) (by decide) rfl rfl (g := (mkF m 19 #[.val (.ref a1), .val (.ref a2), .val (.ref tq), .val (.int (1 : Int32))] [(.int ((1 : Int32) + (1 : Int32))), (.ref a1)])) rfl rfl (hb hby d16_19)
  have f114 := Nat.le_trans f105 (Nat.le_of_eq W113.size.symm)
  have f115 := f106.wr W113 (Or.inl (List.mem_of_getElem? (i := 0) rfl))
  have f116 := f107.wr W113
  have f117 := f108.other W113 (Or.inr (slot_ne (Or.inl (hw _ (List.mem_of_getElem? (i := 61) rfl))) (Or.inl (hw _ (List.mem_of_getElem? (i := 109) rfl))) (by decide) (t := .int) (t' := .int) (by decide) (by decide)))
  have f118 := f109.other W113 (Or.inr (slot_ne (Or.inl (hw _ (List.mem_of_getElem? (i := 65) rfl))) (Or.inl (hw _ (List.mem_of_getElem? (i := 109) rfl))) (by decide) (t := (.array (.object "java/lang/Object"))) (t' := .int) (by decide) (by decide)))
  have f119 := V104.other W113 (Ne.symm w1)
  have F113 := f110.same W113
  have N113 := Fr.snoc X113 N104 g1
  have K120 : ∀ t, Steps p.tables e below (T113.setTop (mkF m 22 #[.val (.ref a1), .val (.ref a2), .val (.ref tq), .val (.int (1 : Int32))] [])) t → Steps p.tables e below (s₁.setTop (entryFrame m #[(.ref a1), (.ref a2), (.ref tq), (.int (1 : Int32))] 4)) t := fun t kt => K112 t (st113 t kt)
  have fS : Fld Z h113 a1 "java/util/ArrayList" "size" "I" (.int (2 : Int32)) := by
    have z := F113
    rw [(by decide : ((1 : Int32) + (1 : Int32)) = (2 : Int32))] at z
    exact z
  obtain ⟨fs, hr, hrun, hended, hW, hsame⟩ := X113.leave (v := none) (fun _ => rfl) (hlocks := hlk)
  refine ⟨_, _, K120 _ ?_, hrun, hended, _, _, rfl, ?_, ⟨_, rfl⟩, hW, hsame.mono (by decide) (by decide)⟩
  · exact X113.returnOut hx Bd.returns (hb hby d16_22) hr
  · show QrmAH1 Z a1 a2 tq kk md el0 h0 n0 _ T113.heap _
    rw [e113]
    exact ⟨rfl, N113, f115, f117, f118, fS, f119⟩
theorem ef_rmAD1 (m : MethodId) (x0 : Addr) (x1 : Addr) : entryFrame m #[(.ref x0), (.ref x1)] 2 = mkF m 0 #[.val (.ref x0), .val (.ref x1)] [] := by first | (simp [entryFrame, mkF, argsToLocals, Value.category]; done) | rfl
def QrmAD1 (Z : State) (a1 a2 tq : Addr) (kk : ClassId) (md : Int32) (el0 : Addr) (h0 : Heap) (n0 : Nat) (v : Option Value) (h : Heap) (L : List Loc) : Prop := v = some (.int (1 : Int32)) ∧ Fr n0 L ∧ Keep h0 h [a1, tq] ∧ Fld Z h a1 "java/util/AbstractList" "modCount" "I" (.int (md + (1 : Int32))) ∧ Fld Z h a1 "java/util/ArrayList" "elementData" "[Ljava/lang/Object;" (.ref tq) ∧ Fld Z h a1 "java/util/ArrayList" "size" "I" (.int (2 : Int32)) ∧ Arv Z h tq kk (.object "java/lang/Object") (3 : Int32) [(.ref el0), (.ref a2), .null] .null
set_option maxRecDepth 65536 in
set_option maxHeartbeats 40000000 in
theorem rmAD1 (l : Launch) (Z : State) (a0 : Array Value) (hw : ∀ d ∈ tables_1, d.before a0 Z = true) (ws : List Jvm.Cond) (a1 a2 tq : Addr) (kk : ClassId) (md : Int32) (el0 : Addr) (h0 : Heap) (n0 : Nat) (Z0 : n0 ≤ h0.size) (E1 : Exa Z h0 a1 "java/util/ArrayList") (F1 : Fld Z h0 a1 "java/util/AbstractList" "modCount" "I" (.int md)) (F2 : Fld Z h0 a1 "java/util/ArrayList" "elementData" "[Ljava/lang/Object;" (.ref tq)) (F3 : Fld Z h0 a1 "java/util/ArrayList" "size" "I" (.int (1 : Int32))) (V1 : Arv Z h0 tq kk (.object "java/lang/Object") (3 : Int32) [(.ref el0), .null, .null] .null) (OV : Ovr Z kk "java/lang/Object") (g1 : n0 ≤ a1) (gt : n0 ≤ tq) (I2 : Ins Z h0 a2 "java/lang/Object" true) (w1 : a1 ≠ tq) :
    MetFree l (⟨"java/util/ArrayList", "add", "(Ljava/lang/Object;)Z"⟩ : MethodName) (head1 (Jvm.Cond.code (⟨"java/util/ArrayList", "add", "(Ljava/lang/Object;)Z"⟩ : MethodName) jdk_38_method_25_code 2 (some .boolean) :: ws) ({ frames := 1, cells := 0, slots := 0, locals := 15 } : Room)) (fun a U => a = #[(.ref a1), (.ref a2)] ∧ Z.Warmed39 U.vm ∧ U.heap = h0) (fun _ _ _ _ _ => True) (fun _ U o U' => ∃ v L, o = .returned v ∧ QrmAD1 Z a1 a2 tq kk md el0 h0 n0 v U'.heap L ∧ FrameEnd U o U' L ({ frames := 1, cells := 0, slots := 0, locals := 15 } : Room).cells ({ frames := 1, cells := 0, slots := 0, locals := 15 } : Room).slots) := by
  refine MetFree.of_bodySF (plainFor_of_name pn_5) hisR ?_
  intro p e s m args below meth c s₁ Bd hml0 hP hK
  obtain ⟨rfl, hZ, hh⟩ := hP
  have hx := Bd.exec
  have hlk : meth.locks = false := BodyLoose.notSynchronized Bd
  have hby := Bd.bytes
  have hml : c.maxLocals = 2 := hml0
  have hown : s.vm.findClass "java/util/ArrayList" = some m.cls := findClass_of_methodNamed Bd.named
  have hnm := (name_of_methodNamed Bd.named Bd.method).1
  have X0 : Stand p l e ({ frames := 1, cells := 0, slots := 0, locals := 15 } : Room) s m #[(.ref a1), (.ref a2)] below meth c s₁ [] 0 0 := Stand.of_body Bd
  have e0 : s₁.heap = h0 := by rw [← hh, Bd.state]; rfl
  have N0 := Fr.nil n0
  have K0 : ∀ t, Steps p.tables e below (s₁.setTop (mkF m 0 #[.val (.ref a1), .val (.ref a2)] [])) t → Steps p.tables e below (s₁.setTop (entryFrame m #[(.ref a1), (.ref a2)] 2)) t := fun t k => castTop (ef_rmAD1 m a1 a2) k
  have KK0 : Keep h0 h0 [a1, tq] := Keep.refl _ _
  
  have K101 : ∀ t, Steps p.tables e below (s₁.setTop (mkF m 2 #[.val (.ref a1), .val (.ref a2)] [(.ref a1), (.ref a1)])) t → Steps p.tables e below (s₁.setTop (entryFrame m #[(.ref a1), (.ref a2)] 2)) t := by
    intro t kt
    refine K0 t ?_
    show Steps p.tables e below (s₁.setTop (mkF m 0 #[.val (.ref a1), .val (.ref a2)] [])) _
    refine XS.aloadN X0.here hx rfl (hb hby d15_0) rfl rfl ?_
    show Steps p.tables e below (s₁.setTop (mkF m 1 #[.val (.ref a1), .val (.ref a2)] [(.ref a1)])) _
    refine XS.dup X0.here hx rfl (hb hby d15_1) rfl rfl ?_
    exact kt
  obtain ⟨T102, X102, e102, st102⟩ := getF X0 hx hZ hown (host := "") (Or.inl (hw _ (List.mem_of_getElem? (i := 106) rfl))) (Via.of (hw _ (List.mem_of_getElem? (i := 107) rfl))) e0 F1 (g := (mkF m 2 #[.val (.ref a1), .val (.ref a2)] [(.ref a1), (.ref a1)])) rfl rfl (hb hby d15_2)
  have K103 : ∀ t, Steps p.tables e below (T102.setTop (mkF m 5 #[.val (.ref a1), .val (.ref a2)] [(.int md), (.ref a1)])) t → Steps p.tables e below (s₁.setTop (entryFrame m #[(.ref a1), (.ref a2)] 2)) t := fun t kt => K101 t (st102 t kt)
  have K104 : ∀ t, Steps p.tables e below (T102.setTop (mkF m 7 #[.val (.ref a1), .val (.ref a2)] [(.int (md + (1 : Int32))), (.ref a1)])) t → Steps p.tables e below (s₁.setTop (entryFrame m #[(.ref a1), (.ref a2)] 2)) t := by
    intro t kt
    refine K103 t ?_
    show Steps p.tables e below (T102.setTop (mkF m 5 #[.val (.ref a1), .val (.ref a2)] [(.int md), (.ref a1)])) _
    refine XS.iconst X102.here hx rfl (hb hby d15_5) ?_
    show Steps p.tables e below (T102.setTop (mkF m 6 #[.val (.ref a1), .val (.ref a2)] [(.int (1 : Int32)), (.int md), (.ref a1)])) _
    refine XS.iadd X102.here hx rfl (hb hby d15_6) rfl ?_
    exact kt
  obtain ⟨T105, h105, X105, e105, W105, st105⟩ := putF X102 hx hZ hown (host := "") (Or.inl (hw _ (List.mem_of_getElem? (i := 106) rfl))) (Via.of (hw _ (List.mem_of_getElem? (i := 107) rfl))) e102 F1 E1 (Or.inl (hw _ (List.mem_of_getElem? (i := 61) rfl))) (hw _ (List.mem_of_getElem? (i := 42) rfl)) (ty := .int) (by decide) rfl rfl (g := (mkF m 7 #[.val (.ref a1), .val (.ref a2)] [(.int (md + (1 : Int32))), (.ref a1)])) rfl rfl (hb hby d15_7)
  have f106 := Nat.le_trans Z0 (Nat.le_of_eq W105.size.symm)
  have f107 := KK0.wr W105 (Or.inl (List.mem_of_getElem? (i := 0) rfl))
  have f108 := E1.wr W105
  have f109 := F2.other W105 (Or.inr (slot_ne (Or.inl (hw _ (List.mem_of_getElem? (i := 65) rfl))) (Or.inl (hw _ (List.mem_of_getElem? (i := 61) rfl))) (by decide) (t := (.array (.object "java/lang/Object"))) (t' := .int) (by decide) (by decide)))
  have f110 := F3.other W105 (Or.inr (slot_ne (Or.inl (hw _ (List.mem_of_getElem? (i := 109) rfl))) (Or.inl (hw _ (List.mem_of_getElem? (i := 61) rfl))) (by decide) (t := .int) (t' := .int) (by decide) (by decide)))
  have f111 := V1.other W105 (Ne.symm w1)
  have f112 := I2.wr W105
  have F105 := F1.same W105
  have N105 := Fr.snoc X105 N0 g1
  have K113 : ∀ t, Steps p.tables e below (T105.setTop (mkF m 10 #[.val (.ref a1), .val (.ref a2)] [])) t → Steps p.tables e below (s₁.setTop (entryFrame m #[(.ref a1), (.ref a2)] 2)) t := fun t kt => K104 t (st105 t kt)
  have K114 : ∀ t, Steps p.tables e below (T105.setTop (mkF m 13 #[.val (.ref a1), .val (.ref a2)] [(.ref a1), (.ref a2), (.ref a1)])) t → Steps p.tables e below (s₁.setTop (entryFrame m #[(.ref a1), (.ref a2)] 2)) t := by
    intro t kt
    refine K113 t ?_
    show Steps p.tables e below (T105.setTop (mkF m 10 #[.val (.ref a1), .val (.ref a2)] [])) _
    refine XS.aloadN X105.here hx rfl (hb hby d15_10) rfl rfl ?_
    show Steps p.tables e below (T105.setTop (mkF m 11 #[.val (.ref a1), .val (.ref a2)] [(.ref a1)])) _
    refine XS.aloadN X105.here hx rfl (hb hby d15_11) rfl rfl ?_
    show Steps p.tables e below (T105.setTop (mkF m 12 #[.val (.ref a1), .val (.ref a2)] [(.ref a2), (.ref a1)])) _
    refine XS.aloadN X105.here hx rfl (hb hby d15_12) rfl rfl ?_
    exact kt
  obtain ⟨T115, X115, e115, st115⟩ := getF X105 hx hZ hown (host := "") (Or.inl (hw _ (List.mem_of_getElem? (i := 64) rfl))) Via.refl e105 f109 (g := (mkF m 13 #[.val (.ref a1), .val (.ref a2)] [(.ref a1), (.ref a2), (.ref a1)])) rfl rfl (hb hby d15_13)
  have K116 : ∀ t, Steps p.tables e below (T115.setTop (mkF m 16 #[.val (.ref a1), .val (.ref a2)] [(.ref tq), (.ref a2), (.ref a1)])) t → Steps p.tables e below (s₁.setTop (entryFrame m #[(.ref a1), (.ref a2)] 2)) t := fun t kt => K114 t (st115 t kt)
  have K117 : ∀ t, Steps p.tables e below (T115.setTop (mkF m 17 #[.val (.ref a1), .val (.ref a2)] [(.ref a1), (.ref tq), (.ref a2), (.ref a1)])) t → Steps p.tables e below (s₁.setTop (entryFrame m #[(.ref a1), (.ref a2)] 2)) t := by
    intro t kt
    refine K116 t ?_
    show Steps p.tables e below (T115.setTop (mkF m 16 #[.val (.ref a1), .val (.ref a2)] [(.ref tq), (.ref a2), (.ref a1)])) _
    refine XS.aloadN X115.here hx rfl (hb hby d15_16) rfl rfl ?_
    exact kt
  obtain ⟨T118, X118, e118, st118⟩ := getF X115 hx hZ hown (host := "") (Or.inl (hw _ (List.mem_of_getElem? (i := 108) rfl))) Via.refl e115 f110 (g := (mkF m 17 #[.val (.ref a1), .val (.ref a2)] [(.ref a1), (.ref tq), (.ref a2), (.ref a1)])) rfl rfl (hb hby d15_17)
  have K119 : ∀ t, Steps p.tables e below (T118.setTop (mkF m 20 #[.val (.ref a1), .val (.ref a2)] [(.int (1 : Int32)), (.ref tq), (.ref a2), (.ref a1)])) t → Steps p.tables e below (s₁.setTop (entryFrame m #[(.ref a1), (.ref a2)] 2)) t := fun t kt => K117 t (st118 t kt)
  obtain ⟨cq120, q120, q120'⟩ := Exa.cell f108
  obtain ⟨_, _, ⟨T120, L120, k120, n120⟩, -, X120, ⟨Lc120, hQ120, l120, y120, z120⟩, st120⟩ := X118.privateBack hx (y := (⟨"java/util/ArrayList", "add", "(Ljava/lang/Object;[Ljava/lang/Object;I)V"⟩ : MethodName)) hown (mvT hZ (hw _ (List.mem_of_getElem? (i := 110) rfl))) (mvT hZ (hw _ (List.mem_of_getElem? (i := 111) rfl))) (mvT hZ (hw _ (List.mem_of_getElem? (i := 113) rfl))) (Cond.privateMethod_at (mvP hZ (hw _ (List.mem_of_getElem? (i := 112) rfl)) (args := #[]))) (mvT hZ (hw _ (List.mem_of_getElem? (i := 114) rfl))) (by decide) (backOf (W := 0) (rmAH1 l Z a0 hw [] a1 a2 tq kk (md + (1 : Int32)) el0 h105 n0 f106 f108 F105 f109 f110 f111 OV g1 gt f112 w1) hZ (hw _ (List.mem_of_getElem? (i := 114) rfl)) (hw _ (List.mem_of_getElem? (i := 43) rfl)) (by decide) (by decide)) (g := (mkF m 20 #[.val (.ref a1), .val (.ref a2)] [(.int (1 : Int32)), (.ref tq), (.ref a2), (.ref a1)])) rfl (by rw [hml]; rfl) (Steps.refl _) (a := a1) (by rw [e118]; exact q120) q120' (argsL := [(.ref a2), (.ref tq), (.int (1 : Int32))]) (rest := []) (lenOf pd_6 rfl) rfl (by show 2 * 0 + _ ≤ _; exact Nat.le_of_eq rfl) (hb hby d15_20) (fun _ _ => ⟨rfl, e118, (by decide : 0 + 0 ≤ _), (by decide : 0 + 0 ≤ _)⟩)
  dsimp only [Pt.U, Pt.locs, Pt.cells, Pt.slots] at X120 l120 y120 z120 st120 hQ120
  subst l120 y120 z120
  obtain ⟨rfl, Nq120, Kq120, M120, D120, S120, W120⟩ := hQ120
  have f121 := Nat.le_trans f106 Kq120.1
  have f122 := f107.trans Kq120 (allS (Or.inl (List.mem_of_getElem? (i := 0) rfl)) (allS (Or.inl (List.mem_of_getElem? (i := 1) rfl)) all0))
  have f123 := f108.keep Kq120
  have N120 := Fr.app N105 Nq120
  have K124 : ∀ t, Steps p.tables e below (T120.setTop (mkF m 23 #[.val (.ref a1), .val (.ref a2)] [])) t → Steps p.tables e below (s₁.setTop (entryFrame m #[(.ref a1), (.ref a2)] 2)) t := fun t kt => K119 t (st120.trans kt)
  have K125 : ∀ t, Steps p.tables e below (T120.setTop (mkF m 24 #[.val (.ref a1), .val (.ref a2)] [(.int (1 : Int32))])) t → Steps p.tables e below (s₁.setTop (entryFrame m #[(.ref a1), (.ref a2)] 2)) t := by
    intro t kt
    refine K124 t ?_
    show Steps p.tables e below (T120.setTop (mkF m 23 #[.val (.ref a1), .val (.ref a2)] [])) _
    refine XS.iconst X120.here hx rfl (hb hby d15_23) ?_
    exact kt
  obtain ⟨fs, hr, hrun, hended, hW, hsame⟩ := X120.leave (v := some (.int (1 : Int32))) (fun h => by rw [Bd.returns] at h; cases h) (hlocks := hlk)
  refine ⟨_, _, K125 _ ?_, hrun, hended, _, _, rfl, ?_, ⟨_, rfl⟩, hW, hsame.mono (by decide) (by decide)⟩
  · exact retN X120 hx (t := .boolean) Bd.returns (by simp) (hb hby d15_24) hr
  · show QrmAD1 Z a1 a2 tq kk md el0 h0 n0 _ T120.heap _
    exact ⟨rfl, N120, f122, M120, D120, S120, W120⟩
theorem ef_rmAH2 (m : MethodId) (x0 : Addr) (x1 : Addr) (x2 : Addr) (x3 : Int32) : entryFrame m #[(.ref x0), (.ref x1), (.ref x2), (.int x3)] 4 = mkF m 0 #[.val (.ref x0), .val (.ref x1), .val (.ref x2), .val (.int x3)] [] := by first | (simp [entryFrame, mkF, argsToLocals, Value.category]; done) | rfl
def QrmAH2 (Z : State) (a1 a2 tq : Addr) (kk : ClassId) (md : Int32) (el0 el1 : Addr) (h0 : Heap) (n0 : Nat) (v : Option Value) (h : Heap) (L : List Loc) : Prop := v = none ∧ Fr n0 L ∧ Keep h0 h [a1, tq] ∧ Fld Z h a1 "java/util/AbstractList" "modCount" "I" (.int md) ∧ Fld Z h a1 "java/util/ArrayList" "elementData" "[Ljava/lang/Object;" (.ref tq) ∧ Fld Z h a1 "java/util/ArrayList" "size" "I" (.int (3 : Int32)) ∧ Arv Z h tq kk (.object "java/lang/Object") (3 : Int32) [(.ref el0), (.ref el1), (.ref a2)] .null
set_option maxRecDepth 65536 in
set_option maxHeartbeats 40000000 in
theorem rmAH2 (l : Launch) (Z : State) (a0 : Array Value) (hw : ∀ d ∈ tables_1, d.before a0 Z = true) (ws : List Jvm.Cond) (a1 a2 tq : Addr) (kk : ClassId) (md : Int32) (el0 el1 : Addr) (h0 : Heap) (n0 : Nat) (Z0 : n0 ≤ h0.size) (E1 : Exa Z h0 a1 "java/util/ArrayList") (F1 : Fld Z h0 a1 "java/util/AbstractList" "modCount" "I" (.int md)) (F2 : Fld Z h0 a1 "java/util/ArrayList" "elementData" "[Ljava/lang/Object;" (.ref tq)) (F3 : Fld Z h0 a1 "java/util/ArrayList" "size" "I" (.int (2 : Int32))) (V1 : Arv Z h0 tq kk (.object "java/lang/Object") (3 : Int32) [(.ref el0), (.ref el1), .null] .null) (OV : Ovr Z kk "java/lang/Object") (g1 : n0 ≤ a1) (gt : n0 ≤ tq) (I2 : Ins Z h0 a2 "java/lang/Object" true) (w1 : a1 ≠ tq) :
    MetFree l (⟨"java/util/ArrayList", "add", "(Ljava/lang/Object;[Ljava/lang/Object;I)V"⟩ : MethodName) (head1 (Jvm.Cond.code (⟨"java/util/ArrayList", "add", "(Ljava/lang/Object;[Ljava/lang/Object;I)V"⟩ : MethodName) jdk_38_method_24_code 4 none :: ws) ({ frames := 0, cells := 0, slots := 0, locals := 0 } : Room)) (fun a U => a = #[(.ref a1), (.ref a2), (.ref tq), (.int (2 : Int32))] ∧ Z.Warmed39 U.vm ∧ U.heap = h0) (fun _ _ _ _ _ => True) (fun _ U o U' => ∃ v L, o = .returned v ∧ QrmAH2 Z a1 a2 tq kk md el0 el1 h0 n0 v U'.heap L ∧ FrameEnd U o U' L ({ frames := 0, cells := 0, slots := 0, locals := 0 } : Room).cells ({ frames := 0, cells := 0, slots := 0, locals := 0 } : Room).slots) := by
  refine MetFree.of_bodySF (plainFor_of_name pn_5) hisR ?_
  intro p e s m args below meth c s₁ Bd hml0 hP hK
  obtain ⟨rfl, hZ, hh⟩ := hP
  have hx := Bd.exec
  have hlk : meth.locks = false := BodyLoose.notSynchronized Bd
  have hby := Bd.bytes
  have hml : c.maxLocals = 4 := hml0
  have hown : s.vm.findClass "java/util/ArrayList" = some m.cls := findClass_of_methodNamed Bd.named
  have hnm := (name_of_methodNamed Bd.named Bd.method).1
  have X0 : Stand p l e ({ frames := 0, cells := 0, slots := 0, locals := 0 } : Room) s m #[(.ref a1), (.ref a2), (.ref tq), (.int (2 : Int32))] below meth c s₁ [] 0 0 := Stand.of_body Bd
  have e0 : s₁.heap = h0 := by rw [← hh, Bd.state]; rfl
  have N0 := Fr.nil n0
  have K0 : ∀ t, Steps p.tables e below (s₁.setTop (mkF m 0 #[.val (.ref a1), .val (.ref a2), .val (.ref tq), .val (.int (2 : Int32))] [])) t → Steps p.tables e below (s₁.setTop (entryFrame m #[(.ref a1), (.ref a2), (.ref tq), (.int (2 : Int32))] 4)) t := fun t k => castTop (ef_rmAH2 m a1 a2 tq (2 : Int32)) k
  have KK0 : Keep h0 h0 [a1, tq] := Keep.refl _ _
  
  have K102 : ∀ t, Steps p.tables e below (s₁.setTop (mkF m 2 #[.val (.ref a1), .val (.ref a2), .val (.ref tq), .val (.int (2 : Int32))] [(.ref tq), (.int (2 : Int32))])) t → Steps p.tables e below (s₁.setTop (entryFrame m #[(.ref a1), (.ref a2), (.ref tq), (.int (2 : Int32))] 4)) t := by
    intro t kt
    refine K0 t ?_
    show Steps p.tables e below (s₁.setTop (mkF m 0 #[.val (.ref a1), .val (.ref a2), .val (.ref tq), .val (.int (2 : Int32))] [])) _
    refine XS.iloadN X0.here hx rfl (hb hby d16_0) rfl ?_
    show Steps p.tables e below (s₁.setTop (mkF m 1 #[.val (.ref a1), .val (.ref a2), .val (.ref tq), .val (.int (2 : Int32))] [(.int (2 : Int32))])) _
    refine XS.aloadN X0.here hx rfl (hb hby d16_1) rfl rfl ?_
    exact kt
  obtain ⟨cl101, Ar101, q101, S101, M101, H101, G101⟩ := id V1
  have K103 : ∀ t, Steps p.tables e below (s₁.setTop (mkF m 14 #[.val (.ref a1), .val (.ref a2), .val (.ref tq), .val (.int (2 : Int32))] [(.ref a2), (.int (2 : Int32)), (.ref tq)])) t → Steps p.tables e below (s₁.setTop (entryFrame m #[(.ref a1), (.ref a2), (.ref tq), (.int (2 : Int32))] 4)) t := by
    intro t kt
    refine K102 t ?_
    show Steps p.tables e below (s₁.setTop (mkF m 2 #[.val (.ref a1), .val (.ref a2), .val (.ref tq), .val (.int (2 : Int32))] [(.ref tq), (.int (2 : Int32))])) _
    refine X0.arraylength hx (by rw [e0]; exact Ar101.1) (State.isArrayOf_alike hZ.alike Ar101.2.1) (g := (mkF m 2 #[.val (.ref a1), .val (.ref a2), .val (.ref tq), .val (.int (2 : Int32))] [(.ref tq), (.int (2 : Int32))])) rfl rfl (hb hby d16_2) _ ?_
    rw [len_of S101 M101]
    show Steps p.tables e below (s₁.setTop (mkF m 3 #[.val (.ref a1), .val (.ref a2), .val (.ref tq), .val (.int (2 : Int32))] [(.int (3 : Int32)), (.int (2 : Int32))])) _
    refine XS.icmpYes X0.here hx rfl (pc0 := 3) (pc' := 11) rfl (hb hby d16_3) rfl (feq (by decide : ¬ ((2 : Int32) = (3 : Int32)))).2 (by decide) (by decide) ?_
    show Steps p.tables e below (s₁.setTop (mkF m 11 #[.val (.ref a1), .val (.ref a2), .val (.ref tq), .val (.int (2 : Int32))] [])) _
    refine XS.aloadN X0.here hx rfl (hb hby d16_11) rfl rfl ?_
    show Steps p.tables e below (s₁.setTop (mkF m 12 #[.val (.ref a1), .val (.ref a2), .val (.ref tq), .val (.int (2 : Int32))] [(.ref tq)])) _
    refine XS.iloadN X0.here hx rfl (hb hby d16_12) rfl ?_
    show Steps p.tables e below (s₁.setTop (mkF m 13 #[.val (.ref a1), .val (.ref a2), .val (.ref tq), .val (.int (2 : Int32))] [(.int (2 : Int32)), (.ref tq)])) _
    refine XS.aloadN X0.here hx rfl (hb hby d16_13) rfl rfl ?_
    exact kt
  obtain ⟨cl104, Ar104, q104, S104, M104, H104, G104⟩ := id V1
  have hin104 : ¬ ((2 : Int32) < 0 ∨ cl104.slots.size ≤ ((2 : Int32)).toNatClampNeg) := inb_of S104 ⟨by decide, by decide⟩
  have so104 := Sto.of Ar104 (by rw [q104]; exact OV) I2
  obtain ⟨T104, h104, X104, e104, W104, st104⟩ := stR X0 hx hZ e0 Ar104 (j := (2 : Int32)) hin104 rfl so104 (g := (mkF m 14 #[.val (.ref a1), .val (.ref a2), .val (.ref tq), .val (.int (2 : Int32))] [(.ref a2), (.int (2 : Int32)), (.ref tq)])) rfl rfl (hb hby d16_14)
  have f105 := Nat.le_trans Z0 (Nat.le_of_eq W104.size.symm)
  have f106 := KK0.wr W104 (Or.inl (List.mem_of_getElem? (i := 1) rfl))
  have f107 := E1.wr W104
  have f108 := F1.other W104 (Or.inl w1)
  have f109 := F2.other W104 (Or.inl w1)
  have f110 := F3.other W104 (Or.inl w1)
  have V104 : Arv Z h104 tq kk (.object "java/lang/Object") (3 : Int32) [(.ref el0), (.ref el1), (.ref a2)] .null := Arv.set Ar104 q104 S104 M104 H104 G104 rfl W104 2 rfl (Nat.le_of_ble_eq_true rfl)
  have N104 := Fr.snoc X104 N0 gt
  have K111 : ∀ t, Steps p.tables e below (T104.setTop (mkF m 15 #[.val (.ref a1), .val (.ref a2), .val (.ref tq), .val (.int (2 : Int32))] [])) t → Steps p.tables e below (s₁.setTop (entryFrame m #[(.ref a1), (.ref a2), (.ref tq), (.int (2 : Int32))] 4)) t := fun t kt => K103 t (st104 t kt)
  have K112 : ∀ t, Steps p.tables e below (T104.setTop (mkF m 19 #[.val (.ref a1), .val (.ref a2), .val (.ref tq), .val (.int (2 : Int32))] [(.int ((2 : Int32) + (1 : Int32))), (.ref a1)])) t → Steps p.tables e below (s₁.setTop (entryFrame m #[(.ref a1), (.ref a2), (.ref tq), (.int (2 : Int32))] 4)) t := by
    intro t kt
    refine K111 t ?_
    show Steps p.tables e below (T104.setTop (mkF m 15 #[.val (.ref a1), .val (.ref a2), .val (.ref tq), .val (.int (2 : Int32))] [])) _
    refine XS.aloadN X104.here hx rfl (hb hby d16_15) rfl rfl ?_
    show Steps p.tables e below (T104.setTop (mkF m 16 #[.val (.ref a1), .val (.ref a2), .val (.ref tq), .val (.int (2 : Int32))] [(.ref a1)])) _
    refine XS.iloadN X104.here hx rfl (hb hby d16_16) rfl ?_
    show Steps p.tables e below (T104.setTop (mkF m 17 #[.val (.ref a1), .val (.ref a2), .val (.ref tq), .val (.int (2 : Int32))] [(.int (2 : Int32)), (.ref a1)])) _
    refine XS.iconst X104.here hx rfl (hb hby d16_17) ?_
    show Steps p.tables e below (T104.setTop (mkF m 18 #[.val (.ref a1), .val (.ref a2), .val (.ref tq), .val (.int (2 : Int32))] [(.int (1 : Int32)), (.int (2 : Int32)), (.ref a1)])) _
    refine XS.iadd X104.here hx rfl (hb hby d16_18) rfl ?_
    exact kt
  obtain ⟨T113, h113, X113, e113, W113, st113⟩ := putF X104 hx hZ hown (host := "") (Or.inl (hw _ (List.mem_of_getElem? (i := 108) rfl))) Via.refl e104 f110 f107 (Or.inl (hw _ (List.mem_of_getElem? (i := 109) rfl))) (hw _ (List.mem_of_getElem? (i := 42) rfl)) (ty := .int) (by decide) rfl rfl (g := (mkF m 19 #[.val (.ref a1), .val (.ref a2), .val (.ref tq), .val (.int (2 : Int32))] [(.int ((2 : Int32) + (1 : Int32))), (.ref a1)])) rfl rfl (hb hby d16_19)
  have f114 := Nat.le_trans f105 (Nat.le_of_eq W113.size.symm)
  have f115 := f106.wr W113 (Or.inl (List.mem_of_getElem? (i := 0) rfl))
  have f116 := f107.wr W113
  have f117 := f108.other W113 (Or.inr (slot_ne (Or.inl (hw _ (List.mem_of_getElem? (i := 61) rfl))) (Or.inl (hw _ (List.mem_of_getElem? (i := 109) rfl))) (by decide) (t := .int) (t' := .int) (by decide) (by decide)))
  have f118 := f109.other W113 (Or.inr (slot_ne (Or.inl (hw _ (List.mem_of_getElem? (i := 65) rfl))) (Or.inl (hw _ (List.mem_of_getElem? (i := 109) rfl))) (by decide) (t := (.array (.object "java/lang/Object"))) (t' := .int) (by decide) (by decide)))
  have f119 := V104.other W113 (Ne.symm w1)
  have F113 := f110.same W113
  have N113 := Fr.snoc X113 N104 g1
  have K120 : ∀ t, Steps p.tables e below (T113.setTop (mkF m 22 #[.val (.ref a1), .val (.ref a2), .val (.ref tq), .val (.int (2 : Int32))] [])) t → Steps p.tables e below (s₁.setTop (entryFrame m #[(.ref a1), (.ref a2), (.ref tq), (.int (2 : Int32))] 4)) t := fun t kt => K112 t (st113 t kt)
  have fS : Fld Z h113 a1 "java/util/ArrayList" "size" "I" (.int (3 : Int32)) := by
    have z := F113
    rw [(by decide : ((2 : Int32) + (1 : Int32)) = (3 : Int32))] at z
    exact z
  obtain ⟨fs, hr, hrun, hended, hW, hsame⟩ := X113.leave (v := none) (fun _ => rfl) (hlocks := hlk)
  refine ⟨_, _, K120 _ ?_, hrun, hended, _, _, rfl, ?_, ⟨_, rfl⟩, hW, hsame.mono (by decide) (by decide)⟩
  · exact X113.returnOut hx Bd.returns (hb hby d16_22) hr
  · show QrmAH2 Z a1 a2 tq kk md el0 el1 h0 n0 _ T113.heap _
    rw [e113]
    exact ⟨rfl, N113, f115, f117, f118, fS, f119⟩
theorem ef_rmAD2 (m : MethodId) (x0 : Addr) (x1 : Addr) : entryFrame m #[(.ref x0), (.ref x1)] 2 = mkF m 0 #[.val (.ref x0), .val (.ref x1)] [] := by first | (simp [entryFrame, mkF, argsToLocals, Value.category]; done) | rfl
def QrmAD2 (Z : State) (a1 a2 tq : Addr) (kk : ClassId) (md : Int32) (el0 el1 : Addr) (h0 : Heap) (n0 : Nat) (v : Option Value) (h : Heap) (L : List Loc) : Prop := v = some (.int (1 : Int32)) ∧ Fr n0 L ∧ Keep h0 h [a1, tq] ∧ Fld Z h a1 "java/util/AbstractList" "modCount" "I" (.int (md + (1 : Int32))) ∧ Fld Z h a1 "java/util/ArrayList" "elementData" "[Ljava/lang/Object;" (.ref tq) ∧ Fld Z h a1 "java/util/ArrayList" "size" "I" (.int (3 : Int32)) ∧ Arv Z h tq kk (.object "java/lang/Object") (3 : Int32) [(.ref el0), (.ref el1), (.ref a2)] .null
set_option maxRecDepth 65536 in
set_option maxHeartbeats 40000000 in
theorem rmAD2 (l : Launch) (Z : State) (a0 : Array Value) (hw : ∀ d ∈ tables_1, d.before a0 Z = true) (ws : List Jvm.Cond) (a1 a2 tq : Addr) (kk : ClassId) (md : Int32) (el0 el1 : Addr) (h0 : Heap) (n0 : Nat) (Z0 : n0 ≤ h0.size) (E1 : Exa Z h0 a1 "java/util/ArrayList") (F1 : Fld Z h0 a1 "java/util/AbstractList" "modCount" "I" (.int md)) (F2 : Fld Z h0 a1 "java/util/ArrayList" "elementData" "[Ljava/lang/Object;" (.ref tq)) (F3 : Fld Z h0 a1 "java/util/ArrayList" "size" "I" (.int (2 : Int32))) (V1 : Arv Z h0 tq kk (.object "java/lang/Object") (3 : Int32) [(.ref el0), (.ref el1), .null] .null) (OV : Ovr Z kk "java/lang/Object") (g1 : n0 ≤ a1) (gt : n0 ≤ tq) (I2 : Ins Z h0 a2 "java/lang/Object" true) (w1 : a1 ≠ tq) :
    MetFree l (⟨"java/util/ArrayList", "add", "(Ljava/lang/Object;)Z"⟩ : MethodName) (head1 (Jvm.Cond.code (⟨"java/util/ArrayList", "add", "(Ljava/lang/Object;)Z"⟩ : MethodName) jdk_38_method_25_code 2 (some .boolean) :: ws) ({ frames := 1, cells := 0, slots := 0, locals := 15 } : Room)) (fun a U => a = #[(.ref a1), (.ref a2)] ∧ Z.Warmed39 U.vm ∧ U.heap = h0) (fun _ _ _ _ _ => True) (fun _ U o U' => ∃ v L, o = .returned v ∧ QrmAD2 Z a1 a2 tq kk md el0 el1 h0 n0 v U'.heap L ∧ FrameEnd U o U' L ({ frames := 1, cells := 0, slots := 0, locals := 15 } : Room).cells ({ frames := 1, cells := 0, slots := 0, locals := 15 } : Room).slots) := by
  refine MetFree.of_bodySF (plainFor_of_name pn_5) hisR ?_
  intro p e s m args below meth c s₁ Bd hml0 hP hK
  obtain ⟨rfl, hZ, hh⟩ := hP
  have hx := Bd.exec
  have hlk : meth.locks = false := BodyLoose.notSynchronized Bd
  have hby := Bd.bytes
  have hml : c.maxLocals = 2 := hml0
  have hown : s.vm.findClass "java/util/ArrayList" = some m.cls := findClass_of_methodNamed Bd.named
  have hnm := (name_of_methodNamed Bd.named Bd.method).1
  have X0 : Stand p l e ({ frames := 1, cells := 0, slots := 0, locals := 15 } : Room) s m #[(.ref a1), (.ref a2)] below meth c s₁ [] 0 0 := Stand.of_body Bd
  have e0 : s₁.heap = h0 := by rw [← hh, Bd.state]; rfl
  have N0 := Fr.nil n0
  have K0 : ∀ t, Steps p.tables e below (s₁.setTop (mkF m 0 #[.val (.ref a1), .val (.ref a2)] [])) t → Steps p.tables e below (s₁.setTop (entryFrame m #[(.ref a1), (.ref a2)] 2)) t := fun t k => castTop (ef_rmAD2 m a1 a2) k
  have KK0 : Keep h0 h0 [a1, tq] := Keep.refl _ _
  
  have K101 : ∀ t, Steps p.tables e below (s₁.setTop (mkF m 2 #[.val (.ref a1), .val (.ref a2)] [(.ref a1), (.ref a1)])) t → Steps p.tables e below (s₁.setTop (entryFrame m #[(.ref a1), (.ref a2)] 2)) t := by
    intro t kt
    refine K0 t ?_
    show Steps p.tables e below (s₁.setTop (mkF m 0 #[.val (.ref a1), .val (.ref a2)] [])) _
    refine XS.aloadN X0.here hx rfl (hb hby d15_0) rfl rfl ?_
    show Steps p.tables e below (s₁.setTop (mkF m 1 #[.val (.ref a1), .val (.ref a2)] [(.ref a1)])) _
    refine XS.dup X0.here hx rfl (hb hby d15_1) rfl rfl ?_
    exact kt
  obtain ⟨T102, X102, e102, st102⟩ := getF X0 hx hZ hown (host := "") (Or.inl (hw _ (List.mem_of_getElem? (i := 106) rfl))) (Via.of (hw _ (List.mem_of_getElem? (i := 107) rfl))) e0 F1 (g := (mkF m 2 #[.val (.ref a1), .val (.ref a2)] [(.ref a1), (.ref a1)])) rfl rfl (hb hby d15_2)
  have K103 : ∀ t, Steps p.tables e below (T102.setTop (mkF m 5 #[.val (.ref a1), .val (.ref a2)] [(.int md), (.ref a1)])) t → Steps p.tables e below (s₁.setTop (entryFrame m #[(.ref a1), (.ref a2)] 2)) t := fun t kt => K101 t (st102 t kt)
  have K104 : ∀ t, Steps p.tables e below (T102.setTop (mkF m 7 #[.val (.ref a1), .val (.ref a2)] [(.int (md + (1 : Int32))), (.ref a1)])) t → Steps p.tables e below (s₁.setTop (entryFrame m #[(.ref a1), (.ref a2)] 2)) t := by
    intro t kt
    refine K103 t ?_
    show Steps p.tables e below (T102.setTop (mkF m 5 #[.val (.ref a1), .val (.ref a2)] [(.int md), (.ref a1)])) _
    refine XS.iconst X102.here hx rfl (hb hby d15_5) ?_
    show Steps p.tables e below (T102.setTop (mkF m 6 #[.val (.ref a1), .val (.ref a2)] [(.int (1 : Int32)), (.int md), (.ref a1)])) _
    refine XS.iadd X102.here hx rfl (hb hby d15_6) rfl ?_
    exact kt
  obtain ⟨T105, h105, X105, e105, W105, st105⟩ := putF X102 hx hZ hown (host := "") (Or.inl (hw _ (List.mem_of_getElem? (i := 106) rfl))) (Via.of (hw _ (List.mem_of_getElem? (i := 107) rfl))) e102 F1 E1 (Or.inl (hw _ (List.mem_of_getElem? (i := 61) rfl))) (hw _ (List.mem_of_getElem? (i := 42) rfl)) (ty := .int) (by decide) rfl rfl (g := (mkF m 7 #[.val (.ref a1), .val (.ref a2)] [(.int (md + (1 : Int32))), (.ref a1)])) rfl rfl (hb hby d15_7)
  have f106 := Nat.le_trans Z0 (Nat.le_of_eq W105.size.symm)
  have f107 := KK0.wr W105 (Or.inl (List.mem_of_getElem? (i := 0) rfl))
  have f108 := E1.wr W105
  have f109 := F2.other W105 (Or.inr (slot_ne (Or.inl (hw _ (List.mem_of_getElem? (i := 65) rfl))) (Or.inl (hw _ (List.mem_of_getElem? (i := 61) rfl))) (by decide) (t := (.array (.object "java/lang/Object"))) (t' := .int) (by decide) (by decide)))
  have f110 := F3.other W105 (Or.inr (slot_ne (Or.inl (hw _ (List.mem_of_getElem? (i := 109) rfl))) (Or.inl (hw _ (List.mem_of_getElem? (i := 61) rfl))) (by decide) (t := .int) (t' := .int) (by decide) (by decide)))
  have f111 := V1.other W105 (Ne.symm w1)
  have f112 := I2.wr W105
  have F105 := F1.same W105
  have N105 := Fr.snoc X105 N0 g1
  have K113 : ∀ t, Steps p.tables e below (T105.setTop (mkF m 10 #[.val (.ref a1), .val (.ref a2)] [])) t → Steps p.tables e below (s₁.setTop (entryFrame m #[(.ref a1), (.ref a2)] 2)) t := fun t kt => K104 t (st105 t kt)
  have K114 : ∀ t, Steps p.tables e below (T105.setTop (mkF m 13 #[.val (.ref a1), .val (.ref a2)] [(.ref a1), (.ref a2), (.ref a1)])) t → Steps p.tables e below (s₁.setTop (entryFrame m #[(.ref a1), (.ref a2)] 2)) t := by
    intro t kt
    refine K113 t ?_
    show Steps p.tables e below (T105.setTop (mkF m 10 #[.val (.ref a1), .val (.ref a2)] [])) _
    refine XS.aloadN X105.here hx rfl (hb hby d15_10) rfl rfl ?_
    show Steps p.tables e below (T105.setTop (mkF m 11 #[.val (.ref a1), .val (.ref a2)] [(.ref a1)])) _
    refine XS.aloadN X105.here hx rfl (hb hby d15_11) rfl rfl ?_
    show Steps p.tables e below (T105.setTop (mkF m 12 #[.val (.ref a1), .val (.ref a2)] [(.ref a2), (.ref a1)])) _
    refine XS.aloadN X105.here hx rfl (hb hby d15_12) rfl rfl ?_
    exact kt
  obtain ⟨T115, X115, e115, st115⟩ := getF X105 hx hZ hown (host := "") (Or.inl (hw _ (List.mem_of_getElem? (i := 64) rfl))) Via.refl e105 f109 (g := (mkF m 13 #[.val (.ref a1), .val (.ref a2)] [(.ref a1), (.ref a2), (.ref a1)])) rfl rfl (hb hby d15_13)
  have K116 : ∀ t, Steps p.tables e below (T115.setTop (mkF m 16 #[.val (.ref a1), .val (.ref a2)] [(.ref tq), (.ref a2), (.ref a1)])) t → Steps p.tables e below (s₁.setTop (entryFrame m #[(.ref a1), (.ref a2)] 2)) t := fun t kt => K114 t (st115 t kt)
  have K117 : ∀ t, Steps p.tables e below (T115.setTop (mkF m 17 #[.val (.ref a1), .val (.ref a2)] [(.ref a1), (.ref tq), (.ref a2), (.ref a1)])) t → Steps p.tables e below (s₁.setTop (entryFrame m #[(.ref a1), (.ref a2)] 2)) t := by
    intro t kt
    refine K116 t ?_
    show Steps p.tables e below (T115.setTop (mkF m 16 #[.val (.ref a1), .val (.ref a2)] [(.ref tq), (.ref a2), (.ref a1)])) _
    refine XS.aloadN X115.here hx rfl (hb hby d15_16) rfl rfl ?_
    exact kt
  obtain ⟨T118, X118, e118, st118⟩ := getF X115 hx hZ hown (host := "") (Or.inl (hw _ (List.mem_of_getElem? (i := 108) rfl))) Via.refl e115 f110 (g := (mkF m 17 #[.val (.ref a1), .val (.ref a2)] [(.ref a1), (.ref tq), (.ref a2), (.ref a1)])) rfl rfl (hb hby d15_17)
  have K119 : ∀ t, Steps p.tables e below (T118.setTop (mkF m 20 #[.val (.ref a1), .val (.ref a2)] [(.int (2 : Int32)), (.ref tq), (.ref a2), (.ref a1)])) t → Steps p.tables e below (s₁.setTop (entryFrame m #[(.ref a1), (.ref a2)] 2)) t := fun t kt => K117 t (st118 t kt)
  obtain ⟨cq120, q120, q120'⟩ := Exa.cell f108
  obtain ⟨_, _, ⟨T120, L120, k120, n120⟩, -, X120, ⟨Lc120, hQ120, l120, y120, z120⟩, st120⟩ := X118.privateBack hx (y := (⟨"java/util/ArrayList", "add", "(Ljava/lang/Object;[Ljava/lang/Object;I)V"⟩ : MethodName)) hown (mvT hZ (hw _ (List.mem_of_getElem? (i := 110) rfl))) (mvT hZ (hw _ (List.mem_of_getElem? (i := 111) rfl))) (mvT hZ (hw _ (List.mem_of_getElem? (i := 113) rfl))) (Cond.privateMethod_at (mvP hZ (hw _ (List.mem_of_getElem? (i := 112) rfl)) (args := #[]))) (mvT hZ (hw _ (List.mem_of_getElem? (i := 114) rfl))) (by decide) (backOf (W := 0) (rmAH2 l Z a0 hw [] a1 a2 tq kk (md + (1 : Int32)) el0 el1 h105 n0 f106 f108 F105 f109 f110 f111 OV g1 gt f112 w1) hZ (hw _ (List.mem_of_getElem? (i := 114) rfl)) (hw _ (List.mem_of_getElem? (i := 43) rfl)) (by decide) (by decide)) (g := (mkF m 20 #[.val (.ref a1), .val (.ref a2)] [(.int (2 : Int32)), (.ref tq), (.ref a2), (.ref a1)])) rfl (by rw [hml]; rfl) (Steps.refl _) (a := a1) (by rw [e118]; exact q120) q120' (argsL := [(.ref a2), (.ref tq), (.int (2 : Int32))]) (rest := []) (lenOf pd_6 rfl) rfl (by show 2 * 0 + _ ≤ _; exact Nat.le_of_eq rfl) (hb hby d15_20) (fun _ _ => ⟨rfl, e118, (by decide : 0 + 0 ≤ _), (by decide : 0 + 0 ≤ _)⟩)
  dsimp only [Pt.U, Pt.locs, Pt.cells, Pt.slots] at X120 l120 y120 z120 st120 hQ120
  subst l120 y120 z120
  obtain ⟨rfl, Nq120, Kq120, M120, D120, S120, W120⟩ := hQ120
  have f121 := Nat.le_trans f106 Kq120.1
  have f122 := f107.trans Kq120 (allS (Or.inl (List.mem_of_getElem? (i := 0) rfl)) (allS (Or.inl (List.mem_of_getElem? (i := 1) rfl)) all0))
  have f123 := f108.keep Kq120
  have N120 := Fr.app N105 Nq120
  have K124 : ∀ t, Steps p.tables e below (T120.setTop (mkF m 23 #[.val (.ref a1), .val (.ref a2)] [])) t → Steps p.tables e below (s₁.setTop (entryFrame m #[(.ref a1), (.ref a2)] 2)) t := fun t kt => K119 t (st120.trans kt)
  have K125 : ∀ t, Steps p.tables e below (T120.setTop (mkF m 24 #[.val (.ref a1), .val (.ref a2)] [(.int (1 : Int32))])) t → Steps p.tables e below (s₁.setTop (entryFrame m #[(.ref a1), (.ref a2)] 2)) t := by
    intro t kt
    refine K124 t ?_
    show Steps p.tables e below (T120.setTop (mkF m 23 #[.val (.ref a1), .val (.ref a2)] [])) _
    refine XS.iconst X120.here hx rfl (hb hby d15_23) ?_
    exact kt
  obtain ⟨fs, hr, hrun, hended, hW, hsame⟩ := X120.leave (v := some (.int (1 : Int32))) (fun h => by rw [Bd.returns] at h; cases h) (hlocks := hlk)
  refine ⟨_, _, K125 _ ?_, hrun, hended, _, _, rfl, ?_, ⟨_, rfl⟩, hW, hsame.mono (by decide) (by decide)⟩
  · exact retN X120 hx (t := .boolean) Bd.returns (by simp) (hb hby d15_24) hr
  · show QrmAD2 Z a1 a2 tq kk md el0 el1 h0 n0 _ T120.heap _
    exact ⟨rfl, N120, f122, M120, D120, S120, W120⟩
theorem ef_rmLS (m : MethodId) (x0 : Addr) : entryFrame m #[(.ref x0)] 3 = mkF m 0 #[.val (.ref x0), .unset, .unset] [] := by first | (simp [entryFrame, mkF, argsToLocals, Value.category]; done) | rfl
def QrmLS (Z : State) (x0 x1 x2 : Int64) (h0 : Heap) (n0 : Nat) (v : Option Value) (h : Heap) (L : List Loc) : Prop := ∃ (b t : Addr) (kk : ClassId) (el0 el1 el2 : Addr), v = some (.ref b) ∧ Exa Z h b "java/util/ArrayList" ∧ Fld Z h b "java/util/ArrayList" "elementData" "[Ljava/lang/Object;" (.ref t) ∧ Fld Z h b "java/util/ArrayList" "size" "I" (.int (3 : Int32)) ∧ Arv Z h t kk (.object "java/lang/Object") (3 : Int32) [(.ref el0), (.ref el1), (.ref el2)] .null ∧ (∃ iv : Value, iv.isRef = true ∧ BDp Z h el0 x0 (2 : Int32) iv) ∧ (∃ iv : Value, iv.isRef = true ∧ BDp Z h el1 x1 (2 : Int32) iv) ∧ (∃ iv : Value, iv.isRef = true ∧ BDp Z h el2 x2 (2 : Int32) iv) ∧ Fr n0 L ∧ Keep h0 h []
set_option maxRecDepth 65536 in
set_option maxHeartbeats 40000000 in
theorem rmLS (l : Launch) (Z : State) (a0 : Array Value) (hw : ∀ d ∈ tables_1, d.before a0 Z = true) (ws : List Jvm.Cond) (a1 t1 : Addr) (k1 : ClassId) (x0 x1 x2 : Int64) (az z2 : Addr) (cz : Cell) (h0 : Heap) (n0 : Nat) (Z0 : n0 ≤ h0.size) (E1 : Exa Z h0 a1 "com/example/tranchery/tranchery/Cents") (F1 : Fld Z h0 a1 "com/example/tranchery/tranchery/Cents" "amounts" "[J" (.ref t1)) (V1 : Arv Z h0 t1 k1 .long (3 : Int32) [(.long x0), (.long x1), (.long x2)] (.long (0 : Int64))) (B1 : Exa Z h0 t1 "[J") (hq0 : ¬ x0 = (-9223372036854775808 : Int64)) (hq1 : ¬ x1 = (-9223372036854775808 : Int64)) (hq2 : ¬ x2 = (-9223372036854775808 : Int64)) (ZZ : ZSc Z Z.heap az z2 cz) (X00 : Old Z n0 h0) :
    MetFree l (⟨"com/example/tranchery/tranchery/Cents", "amounts", "()Ljava/util/List;"⟩ : MethodName) (head1 (Jvm.Cond.code (⟨"com/example/tranchery/tranchery/Cents", "amounts", "()Ljava/util/List;"⟩ : MethodName) prog_5_method_8_code 3 (some (.object "java/util/List")) :: ws) ({ frames := 5, cells := 5, slots := 21, locals := 70 } : Room)) (fun a U => a = #[(.ref a1)] ∧ Z.Warmed39 U.vm ∧ U.heap = h0) (fun _ _ _ _ _ => True) (fun _ U o U' => ∃ v L, o = .returned v ∧ QrmLS Z x0 x1 x2 h0 n0 v U'.heap L ∧ FrameEnd U o U' L ({ frames := 5, cells := 5, slots := 21, locals := 70 } : Room).cells ({ frames := 5, cells := 5, slots := 21, locals := 70 } : Room).slots) := by
  refine MetFree.of_bodySF (plainFor_of_name pn_2) hisR ?_
  intro p e s m args below meth c s₁ Bd hml0 hP hK
  obtain ⟨rfl, hZ, hh⟩ := hP
  have hx := Bd.exec
  have hlk : meth.locks = false := BodyLoose.notSynchronized Bd
  have hby := Bd.bytes
  have hml : c.maxLocals = 3 := hml0
  have hown : s.vm.findClass "com/example/tranchery/tranchery/Cents" = some m.cls := findClass_of_methodNamed Bd.named
  have hnm := (name_of_methodNamed Bd.named Bd.method).1
  have X0 : Stand p l e ({ frames := 5, cells := 5, slots := 21, locals := 70 } : Room) s m #[(.ref a1)] below meth c s₁ [] 0 0 := Stand.of_body Bd
  have e0 : s₁.heap = h0 := by rw [← hh, Bd.state]; rfl
  have N0 := Fr.nil n0
  have K0 : ∀ t, Steps p.tables e below (s₁.setTop (mkF m 0 #[.val (.ref a1), .unset, .unset] [])) t → Steps p.tables e below (s₁.setTop (entryFrame m #[(.ref a1)] 3)) t := fun t k => castTop (ef_rmLS m a1) k
  have KK0 : Keep h0 h0 [] := Keep.refl _ _
  
  obtain ⟨T101, h101, X101, e101, E101, A101, D101, U101, st101⟩ := newO X0 hx hZ hown (hw _ (List.mem_of_getElem? (i := 41) rfl)) (hw _ (List.mem_of_getElem? (i := 42) rfl)) (hw _ (List.mem_of_getElem? (i := 43) rfl)) e0 (g := (mkF m 0 #[.val (.ref a1), .unset, .unset] [])) rfl (hb hby d7_0) (by decide) (by decide)
  obtain ⟨b101, g101⟩ : ∃ z, z = h0.size := ⟨_, rfl⟩
  rw [← g101] at A101 D101 U101 st101
  have ne_a1_b101 : a1 ≠ b101 := by rw [g101]; exact Nat.ne_of_lt E1.lt
  have ne_t1_b101 : t1 ≠ b101 := by rw [g101]; exact Nat.ne_of_lt V1.lt
  have sz102 : h0.size ≤ b101 := Nat.le_trans KK0.1 (Nat.le_of_eq g101.symm)
  have g_b101 : n0 ≤ b101 := Nat.le_trans Z0 (Nat.le_of_eq g101.symm)
  have f103 := Nat.le_trans Z0 E101.1
  have f104 := KK0.ext E101
  have f105 := E1.ext E101
  have f106 := F1.ext E101
  have f107 := V1.ext E101
  have f108 := B1.ext E101
  have f109 := X00.ext E101
  have F110 : Fld Z h101 b101 "java/util/AbstractList" "modCount" "I" (.int (0 : Int32)) := D101 (Or.inl (hw _ (List.mem_of_getElem? (i := 61) rfl))) (ty := .int) (by decide)
  have F111 : Fld Z h101 b101 "java/util/ArrayList" "elementData" "[Ljava/lang/Object;" .null := D101 (Or.inl (hw _ (List.mem_of_getElem? (i := 65) rfl))) (ty := (.array (.object "java/lang/Object"))) (by decide)
  have F112 : Fld Z h101 b101 "java/util/ArrayList" "size" "I" (.int (0 : Int32)) := D101 (Or.inl (hw _ (List.mem_of_getElem? (i := 109) rfl))) (ty := .int) (by decide)
  have K113 : ∀ t, Steps p.tables e below (T101.setTop (mkF m 3 #[.val (.ref a1), .unset, .unset] [(.ref b101)])) t → Steps p.tables e below (s₁.setTop (entryFrame m #[(.ref a1)] 3)) t := fun t kt => K0 t (st101 t kt)
  have K114 : ∀ t, Steps p.tables e below (T101.setTop (mkF m 5 #[.val (.ref a1), .unset, .unset] [(.ref a1), (.ref b101), (.ref b101)])) t → Steps p.tables e below (s₁.setTop (entryFrame m #[(.ref a1)] 3)) t := by
    intro t kt
    refine K113 t ?_
    show Steps p.tables e below (T101.setTop (mkF m 3 #[.val (.ref a1), .unset, .unset] [(.ref b101)])) _
    refine XS.dup X101.here hx rfl (hb hby d7_3) rfl rfl ?_
    show Steps p.tables e below (T101.setTop (mkF m 4 #[.val (.ref a1), .unset, .unset] [(.ref b101), (.ref b101)])) _
    refine XS.aloadN X101.here hx rfl (hb hby d7_4) rfl rfl ?_
    exact kt
  obtain ⟨T115, X115, e115, st115⟩ := getF X101 hx hZ hown (host := "") (Or.inl (hw _ (List.mem_of_getElem? (i := 13) rfl))) Via.refl e101 f106 (g := (mkF m 5 #[.val (.ref a1), .unset, .unset] [(.ref a1), (.ref b101), (.ref b101)])) rfl rfl (hb hby d7_5)
  have K116 : ∀ t, Steps p.tables e below (T115.setTop (mkF m 8 #[.val (.ref a1), .unset, .unset] [(.ref t1), (.ref b101), (.ref b101)])) t → Steps p.tables e below (s₁.setTop (entryFrame m #[(.ref a1)] 3)) t := fun t kt => K114 t (st115 t kt)
  obtain ⟨cl117, Ar117, q117, S117, M117, H117, G117⟩ := id f107
  have K118 : ∀ t, Steps p.tables e below (T115.setTop (mkF m 9 #[.val (.ref a1), .unset, .unset] [(.int (3 : Int32)), (.ref b101), (.ref b101)])) t → Steps p.tables e below (s₁.setTop (entryFrame m #[(.ref a1)] 3)) t := by
    intro t kt
    refine K116 t ?_
    show Steps p.tables e below (T115.setTop (mkF m 8 #[.val (.ref a1), .unset, .unset] [(.ref t1), (.ref b101), (.ref b101)])) _
    refine X115.arraylength hx (by rw [e115]; exact Ar117.1) (State.isArrayOf_alike hZ.alike Ar117.2.1) (g := (mkF m 8 #[.val (.ref a1), .unset, .unset] [(.ref t1), (.ref b101), (.ref b101)])) rfl rfl (hb hby d7_8) _ ?_
    rw [len_of S117 M117]
    exact kt
  obtain ⟨_, _, ⟨T119, L119, k119, n119⟩, -, X119, ⟨Lc119, hQ119, l119, y119, z119⟩, st119⟩ := X115.specialBack hx (y := (⟨"java/util/ArrayList", "<init>", "(I)V"⟩ : MethodName)) rfl hown (mvT hZ (hw _ (List.mem_of_getElem? (i := 44) rfl))) (mvT hZ (hw _ (List.mem_of_getElem? (i := 45) rfl))) (mvT hZ (hw _ (List.mem_of_getElem? (i := 46) rfl))) (by decide) (backOf (W := 1) (rmAI3 l Z a0 hw [] b101 h101 n0 f103 A101 F110 F111 F112 g_b101) hZ (hw _ (List.mem_of_getElem? (i := 46) rfl)) (hw _ (List.mem_of_getElem? (i := 43) rfl)) (by decide) (by decide)) (g := (mkF m 9 #[.val (.ref a1), .unset, .unset] [(.int (3 : Int32)), (.ref b101), (.ref b101)])) rfl (by rw [hml]; rfl) (Steps.refl _) (a := b101) (argsL := [(.int (3 : Int32))]) (rest := [(.ref b101)]) (lenOf pd_7 rfl) rfl (by show 2 * 0 + _ ≤ _; exact Nat.le_of_eq rfl) (hb hby d7_9) (fun _ _ => ⟨rfl, e115, (by decide : 1 + 1 ≤ _), (by decide : 3 + 3 ≤ _)⟩)
  dsimp only [Pt.U, Pt.locs, Pt.cells, Pt.slots] at X119 l119 y119 z119 st119 hQ119
  subst l119 y119 z119
  obtain ⟨rfl, Nq119, Kq119, tt, kt, gtt, stt, OV, M119, D119, S119, W119⟩ := hQ119
  have f120 := Nat.le_trans f103 Kq119.1
  have f121 := f104.trans Kq119 (allS (Or.inr sz102) all0)
  have f122 := f105.keep Kq119
  have f123 := f106.keep Kq119 (own_nin ne_a1_b101)
  have f124 := f107.keep Kq119 (own_nin ne_t1_b101)
  have f125 := f108.keep Kq119
  have f126 := f109.keep Kq119 (allS g_b101 all0)
  have f127 := A101.keep Kq119
  have N119 := Fr.app N0 Nq119
  have K128 : ∀ t, Steps p.tables e below (T119.setTop (mkF m 12 #[.val (.ref a1), .unset, .unset] [(.ref b101)])) t → Steps p.tables e below (s₁.setTop (entryFrame m #[(.ref a1)] 3)) t := fun t kt => K118 t (st119.trans kt)
  have ne129 : a1 ≠ tt := Nat.ne_of_lt (Nat.lt_of_lt_of_le f105.lt stt)
  have ne130 : t1 ≠ tt := Nat.ne_of_lt (Nat.lt_of_lt_of_le f107.lt stt)
  have ne131 : b101 ≠ tt := Nat.ne_of_lt (Nat.lt_of_lt_of_le A101.lt stt)
  have sz132 : h0.size ≤ tt := Nat.le_trans f104.1 stt
  have K133 : ∀ t, Steps p.tables e below (T119.setTop (mkF m 17 #[.val (.ref a1), .val (.ref b101), .val (.int (0 : Int32))] [(.ref a1), (.int (0 : Int32))])) t → Steps p.tables e below (s₁.setTop (entryFrame m #[(.ref a1)] 3)) t := by
    intro t kt
    refine K128 t ?_
    show Steps p.tables e below (T119.setTop (mkF m 12 #[.val (.ref a1), .unset, .unset] [(.ref b101)])) _
    refine XS.astoreN X119.here hx rfl (hb hby d7_12) rfl rfl (l' := #[.val (.ref a1), .val (.ref b101), .unset]) rfl ?_
    show Steps p.tables e below (T119.setTop (mkF m 13 #[.val (.ref a1), .val (.ref b101), .unset] [])) _
    refine XS.iconst X119.here hx rfl (hb hby d7_13) ?_
    show Steps p.tables e below (T119.setTop (mkF m 14 #[.val (.ref a1), .val (.ref b101), .unset] [(.int (0 : Int32))])) _
    refine XS.istoreN X119.here hx rfl (hb hby d7_14) rfl (l' := #[.val (.ref a1), .val (.ref b101), .val (.int (0 : Int32))]) rfl ?_
    show Steps p.tables e below (T119.setTop (mkF m 15 #[.val (.ref a1), .val (.ref b101), .val (.int (0 : Int32))] [])) _
    refine XS.iloadN X119.here hx rfl (hb hby d7_15) rfl ?_
    show Steps p.tables e below (T119.setTop (mkF m 16 #[.val (.ref a1), .val (.ref b101), .val (.int (0 : Int32))] [(.int (0 : Int32))])) _
    refine XS.aloadN X119.here hx rfl (hb hby d7_16) rfl rfl ?_
    exact kt
  obtain ⟨T134, X134, e134, st134⟩ := getF X119 hx hZ hown (host := "") (Or.inl (hw _ (List.mem_of_getElem? (i := 13) rfl))) Via.refl rfl f123 (g := (mkF m 17 #[.val (.ref a1), .val (.ref b101), .val (.int (0 : Int32))] [(.ref a1), (.int (0 : Int32))])) rfl rfl (hb hby d7_17)
  have K135 : ∀ t, Steps p.tables e below (T134.setTop (mkF m 20 #[.val (.ref a1), .val (.ref b101), .val (.int (0 : Int32))] [(.ref t1), (.int (0 : Int32))])) t → Steps p.tables e below (s₁.setTop (entryFrame m #[(.ref a1)] 3)) t := fun t kt => K133 t (st134 t kt)
  obtain ⟨cl136, Ar136, q136, S136, M136, H136, G136⟩ := id f124
  have K137 : ∀ t, Steps p.tables e below (T134.setTop (mkF m 27 #[.val (.ref a1), .val (.ref b101), .val (.int (0 : Int32))] [(.int (0 : Int32)), (.ref a1), (.ref b101)])) t → Steps p.tables e below (s₁.setTop (entryFrame m #[(.ref a1)] 3)) t := by
    intro t kt
    refine K135 t ?_
    show Steps p.tables e below (T134.setTop (mkF m 20 #[.val (.ref a1), .val (.ref b101), .val (.int (0 : Int32))] [(.ref t1), (.int (0 : Int32))])) _
    refine X134.arraylength hx (by rw [e134]; exact Ar136.1) (State.isArrayOf_alike hZ.alike Ar136.2.1) (g := (mkF m 20 #[.val (.ref a1), .val (.ref b101), .val (.int (0 : Int32))] [(.ref t1), (.int (0 : Int32))])) rfl rfl (hb hby d7_20) _ ?_
    rw [len_of S136 M136]
    show Steps p.tables e below (T134.setTop (mkF m 21 #[.val (.ref a1), .val (.ref b101), .val (.int (0 : Int32))] [(.int (3 : Int32)), (.int (0 : Int32))])) _
    refine XS.icmpNo X134.here hx rfl (hb hby d7_21) rfl (tlt (by decide : (0 : Int32) < (3 : Int32))).2.1 ?_
    show Steps p.tables e below (T134.setTop (mkF m 24 #[.val (.ref a1), .val (.ref b101), .val (.int (0 : Int32))] [])) _
    refine XS.aloadN X134.here hx rfl (hb hby d7_24) rfl rfl ?_
    show Steps p.tables e below (T134.setTop (mkF m 25 #[.val (.ref a1), .val (.ref b101), .val (.int (0 : Int32))] [(.ref b101)])) _
    refine XS.aloadN X134.here hx rfl (hb hby d7_25) rfl rfl ?_
    show Steps p.tables e below (T134.setTop (mkF m 26 #[.val (.ref a1), .val (.ref b101), .val (.int (0 : Int32))] [(.ref a1), (.ref b101)])) _
    refine XS.iloadN X134.here hx rfl (hb hby d7_26) rfl ?_
    exact kt
  obtain ⟨cq138, kq138, q138a, q138b, q138c⟩ := isOf hZ e134 f122
  obtain ⟨_, _, ⟨T138, L138, k138, n138⟩, -, X138, ⟨Lc138, hQ138, l138, y138, z138⟩, st138⟩ := X134.virtualBack hx (y := (⟨"com/example/tranchery/tranchery/Cents", "amount", "(I)Ljava/math/BigDecimal;"⟩ : MethodName)) (z := (⟨"com/example/tranchery/tranchery/Cents", "amount", "(I)Ljava/math/BigDecimal;"⟩ : MethodName)) hown (mvT hZ (hw _ (List.mem_of_getElem? (i := 66) rfl))) (mvT hZ (hw _ (List.mem_of_getElem? (i := 67) rfl))) (notFace_of_selects (args := #[]) (mvT hZ (hw _ (List.mem_of_getElem? (i := 69) rfl)))) (mvT hZ (hw _ (List.mem_of_getElem? (i := 69) rfl))) (mvT hZ (hw _ (List.mem_of_getElem? (i := 68) rfl))) (by decide) (backOf (W := 1) (rmAM0 l Z a0 hw [] a1 t1 k1 x0 x1 x2 az z2 cz T119.heap n0 f120 f122 f123 f124 f125 hq0 (ZZ.ext f126.2)) hZ (hw _ (List.mem_of_getElem? (i := 70) rfl)) (hw _ (List.mem_of_getElem? (i := 2) rfl)) (by decide) (by decide)) q138a q138c (g := (mkF m 27 #[.val (.ref a1), .val (.ref b101), .val (.int (0 : Int32))] [(.int (0 : Int32)), (.ref a1), (.ref b101)])) rfl (by rw [hml]; rfl) (Steps.refl _) (argsL := [(.int (0 : Int32))]) (rest := [(.ref b101)]) (lenOf pd_3 rfl) rfl (by show 2 * 0 + _ ≤ _; exact Nat.le_of_eq rfl) (hb hby d7_27) (fun _ _ => ⟨rfl, e134, (by decide : 2 + 1 ≤ _), (by decide : 6 + 5 ≤ _)⟩)
  dsimp only [Pt.U, Pt.locs, Pt.cells, Pt.slots] at X138 l138 y138 z138 st138 hQ138
  subst l138 y138 z138
  obtain ⟨el0, iv0, rfl, ri0, B0, Nq138, Kq138⟩ := hQ138
  have f139 := Nat.le_trans f120 Kq138.1
  have f140 := f121.trans Kq138 all0
  have f141 := f122.keep Kq138
  have f142 := f123.keep Kq138 own_nil
  have f143 := f124.keep Kq138 own_nil
  have f144 := f125.keep Kq138
  have f145 := f126.keep Kq138 all0
  have f146 := f127.keep Kq138
  have f147 := M119.keep Kq138 own_nil
  have f148 := D119.keep Kq138 own_nil
  have f149 := S119.keep Kq138 own_nil
  have f150 := W119.keep Kq138 own_nil
  have N138 := Fr.app N119 Nq138
  have K151 : ∀ t, Steps p.tables e below (T138.setTop (mkF m 30 #[.val (.ref a1), .val (.ref b101), .val (.int (0 : Int32))] [(.ref el0), (.ref b101)])) t → Steps p.tables e below (s₁.setTop (entryFrame m #[(.ref a1)] 3)) t := fun t kt => K137 t (st138.trans kt)
  have neb0 : el0 ≠ b101 := Exa.ne B0.1 f146 (by decide)
  have net0 : el0 ≠ tt := Exa.neArv B0.1 f150 (hw _ (List.mem_of_getElem? (i := 76) rfl))
  obtain ⟨cq152, kq152, q152a, q152b, q152c⟩ := isOf hZ rfl f146
  obtain ⟨_, _, ⟨T152, L152, k152, n152⟩, -, X152, ⟨Lc152, hQ152, l152, y152, z152⟩, st152⟩ := X138.interfaceBack hx (xi := (⟨"java/util/List", "add", "(Ljava/lang/Object;)Z"⟩ : MethodName)) (y := (⟨"java/util/ArrayList", "add", "(Ljava/lang/Object;)Z"⟩ : MethodName)) hown (mvT hZ (hw _ (List.mem_of_getElem? (i := 97) rfl))) (mvT hZ (hw _ (List.mem_of_getElem? (i := 98) rfl))) (mvT hZ (hw _ (List.mem_of_getElem? (i := 99) rfl))) (mvT hZ (hw _ (List.mem_of_getElem? (i := 100) rfl))) (mvT hZ (hw _ (List.mem_of_getElem? (i := 101) rfl))) (mvT hZ (hw _ (List.mem_of_getElem? (i := 102) rfl))) (mvT hZ (hw _ (List.mem_of_getElem? (i := 103) rfl))) (mvT hZ (hw _ (List.mem_of_getElem? (i := 104) rfl))) (by decide) (backOf (W := 0) (rmAD0 l Z a0 hw [] b101 el0 tt kt (0 : Int32)  T138.heap n0 f139 f146 f147 f148 f149 f150 OV g_b101 gtt (Ins.of_exa B0.1 (hw _ (List.mem_of_getElem? (i := 115) rfl))) ne131) hZ (hw _ (List.mem_of_getElem? (i := 105) rfl)) (hw _ (List.mem_of_getElem? (i := 43) rfl)) (by decide) (by decide)) q152a q152b q152c (g := (mkF m 30 #[.val (.ref a1), .val (.ref b101), .val (.int (0 : Int32))] [(.ref el0), (.ref b101)])) rfl (by rw [hml]; rfl) (Steps.refl _) (argsL := [(.ref el0)]) (rest := []) (lenOf pd_8 rfl) rfl (by show 2 * 0 + _ ≤ _; exact Nat.le_of_eq rfl) (hb hby d7_30) (fun _ _ => ⟨rfl, rfl, (by decide : 3 + 0 ≤ _), (by decide : 11 + 0 ≤ _)⟩)
  dsimp only [Pt.U, Pt.locs, Pt.cells, Pt.slots] at X152 l152 y152 z152 st152 hQ152
  subst l152 y152 z152
  obtain ⟨rfl, Nq152, Kq152, M152, D152, S152, W152⟩ := hQ152
  have f153 := Nat.le_trans f139 Kq152.1
  have f154 := f140.trans Kq152 (allS (Or.inr sz102) (allS (Or.inr sz132) all0))
  have f155 := f141.keep Kq152
  have f156 := f142.keep Kq152 (by simp only [List.mem_cons, List.not_mem_nil, or_false, not_or]; exact ⟨ne_a1_b101, ne129⟩)
  have f157 := f143.keep Kq152 (by simp only [List.mem_cons, List.not_mem_nil, or_false, not_or]; exact ⟨ne_t1_b101, ne130⟩)
  have f158 := f144.keep Kq152
  have f159 := f145.keep Kq152 (allS g_b101 (allS gtt all0))
  have f160 := f146.keep Kq152
  have f161 := B0.keep Kq152 (by simp only [List.mem_cons, List.not_mem_nil, or_false, not_or]; exact ⟨neb0, net0⟩)
  have N152 := Fr.app N138 Nq152
  have K162 : ∀ t, Steps p.tables e below (T152.setTop (mkF m 35 #[.val (.ref a1), .val (.ref b101), .val (.int (0 : Int32))] [(.int (1 : Int32))])) t → Steps p.tables e below (s₁.setTop (entryFrame m #[(.ref a1)] 3)) t := fun t kt => K151 t (st152.trans kt)
  have K163 : ∀ t, Steps p.tables e below (T152.setTop (mkF m 17 #[.val (.ref a1), .val (.ref b101), .val (.int ((0 : Int32) + (1 : Int32)))] [(.ref a1), (.int ((0 : Int32) + (1 : Int32)))])) t → Steps p.tables e below (s₁.setTop (entryFrame m #[(.ref a1)] 3)) t := by
    intro t kt
    refine K162 t ?_
    show Steps p.tables e below (T152.setTop (mkF m 35 #[.val (.ref a1), .val (.ref b101), .val (.int (0 : Int32))] [(.int (1 : Int32))])) _
    refine XS.pop X152.here hx rfl (hb hby d7_35) rfl rfl ?_
    show Steps p.tables e below (T152.setTop (mkF m 36 #[.val (.ref a1), .val (.ref b101), .val (.int (0 : Int32))] [])) _
    refine XS.iinc X152.here hx rfl (hb hby d7_36) rfl (l' := #[.val (.ref a1), .val (.ref b101), .val (.int ((0 : Int32) + (1 : Int32)))]) rfl ?_
    show Steps p.tables e below (T152.setTop (mkF m 39 #[.val (.ref a1), .val (.ref b101), .val (.int ((0 : Int32) + (1 : Int32)))] [])) _
    refine XS.goto X152.here hx rfl (pc0 := 39) (pc' := 15) rfl (hb hby d7_39) (by decide) (by decide) ?_
    show Steps p.tables e below (T152.setTop (mkF m 15 #[.val (.ref a1), .val (.ref b101), .val (.int ((0 : Int32) + (1 : Int32)))] [])) _
    refine XS.iloadN X152.here hx rfl (hb hby d7_15) rfl ?_
    show Steps p.tables e below (T152.setTop (mkF m 16 #[.val (.ref a1), .val (.ref b101), .val (.int ((0 : Int32) + (1 : Int32)))] [(.int ((0 : Int32) + (1 : Int32)))])) _
    refine XS.aloadN X152.here hx rfl (hb hby d7_16) rfl rfl ?_
    exact kt
  obtain ⟨T164, X164, e164, st164⟩ := getF X152 hx hZ hown (host := "") (Or.inl (hw _ (List.mem_of_getElem? (i := 13) rfl))) Via.refl rfl f156 (g := (mkF m 17 #[.val (.ref a1), .val (.ref b101), .val (.int ((0 : Int32) + (1 : Int32)))] [(.ref a1), (.int ((0 : Int32) + (1 : Int32)))])) rfl rfl (hb hby d7_17)
  have K165 : ∀ t, Steps p.tables e below (T164.setTop (mkF m 20 #[.val (.ref a1), .val (.ref b101), .val (.int ((0 : Int32) + (1 : Int32)))] [(.ref t1), (.int ((0 : Int32) + (1 : Int32)))])) t → Steps p.tables e below (s₁.setTop (entryFrame m #[(.ref a1)] 3)) t := fun t kt => K163 t (st164 t kt)
  obtain ⟨cl166, Ar166, q166, S166, M166, H166, G166⟩ := id f157
  have K167 : ∀ t, Steps p.tables e below (T164.setTop (mkF m 27 #[.val (.ref a1), .val (.ref b101), .val (.int ((0 : Int32) + (1 : Int32)))] [(.int ((0 : Int32) + (1 : Int32))), (.ref a1), (.ref b101)])) t → Steps p.tables e below (s₁.setTop (entryFrame m #[(.ref a1)] 3)) t := by
    intro t kt
    refine K165 t ?_
    show Steps p.tables e below (T164.setTop (mkF m 20 #[.val (.ref a1), .val (.ref b101), .val (.int ((0 : Int32) + (1 : Int32)))] [(.ref t1), (.int ((0 : Int32) + (1 : Int32)))])) _
    refine X164.arraylength hx (by rw [e164]; exact Ar166.1) (State.isArrayOf_alike hZ.alike Ar166.2.1) (g := (mkF m 20 #[.val (.ref a1), .val (.ref b101), .val (.int ((0 : Int32) + (1 : Int32)))] [(.ref t1), (.int ((0 : Int32) + (1 : Int32)))])) rfl rfl (hb hby d7_20) _ ?_
    rw [len_of S166 M166]
    show Steps p.tables e below (T164.setTop (mkF m 21 #[.val (.ref a1), .val (.ref b101), .val (.int ((0 : Int32) + (1 : Int32)))] [(.int (3 : Int32)), (.int ((0 : Int32) + (1 : Int32)))])) _
    refine XS.icmpNo X164.here hx rfl (hb hby d7_21) rfl (tlt (by decide : ((0 : Int32) + (1 : Int32)) < (3 : Int32))).2.1 ?_
    show Steps p.tables e below (T164.setTop (mkF m 24 #[.val (.ref a1), .val (.ref b101), .val (.int ((0 : Int32) + (1 : Int32)))] [])) _
    refine XS.aloadN X164.here hx rfl (hb hby d7_24) rfl rfl ?_
    show Steps p.tables e below (T164.setTop (mkF m 25 #[.val (.ref a1), .val (.ref b101), .val (.int ((0 : Int32) + (1 : Int32)))] [(.ref b101)])) _
    refine XS.aloadN X164.here hx rfl (hb hby d7_25) rfl rfl ?_
    show Steps p.tables e below (T164.setTop (mkF m 26 #[.val (.ref a1), .val (.ref b101), .val (.int ((0 : Int32) + (1 : Int32)))] [(.ref a1), (.ref b101)])) _
    refine XS.iloadN X164.here hx rfl (hb hby d7_26) rfl ?_
    exact kt
  have ix1 : ((0 : Int32) + (1 : Int32)) = (1 : Int32) := by decide
  have K168 : ∀ t, Steps p.tables e below (T164.setTop (mkF m 27 #[.val (.ref a1), .val (.ref b101), .val (.int (1 : Int32))] [(.int (1 : Int32)), (.ref a1), (.ref b101)])) t → Steps p.tables e below (s₁.setTop (entryFrame m #[(.ref a1)] 3)) t := by
    rw [← ix1]; exact K167
  obtain ⟨cq169, kq169, q169a, q169b, q169c⟩ := isOf hZ e164 f155
  obtain ⟨_, _, ⟨T169, L169, k169, n169⟩, -, X169, ⟨Lc169, hQ169, l169, y169, z169⟩, st169⟩ := X164.virtualBack hx (y := (⟨"com/example/tranchery/tranchery/Cents", "amount", "(I)Ljava/math/BigDecimal;"⟩ : MethodName)) (z := (⟨"com/example/tranchery/tranchery/Cents", "amount", "(I)Ljava/math/BigDecimal;"⟩ : MethodName)) hown (mvT hZ (hw _ (List.mem_of_getElem? (i := 66) rfl))) (mvT hZ (hw _ (List.mem_of_getElem? (i := 67) rfl))) (notFace_of_selects (args := #[]) (mvT hZ (hw _ (List.mem_of_getElem? (i := 69) rfl)))) (mvT hZ (hw _ (List.mem_of_getElem? (i := 69) rfl))) (mvT hZ (hw _ (List.mem_of_getElem? (i := 68) rfl))) (by decide) (backOf (W := 1) (rmAM1 l Z a0 hw [] a1 t1 k1 x0 x1 x2 az z2 cz T152.heap n0 f153 f155 f156 f157 f158 hq1 (ZZ.ext f159.2)) hZ (hw _ (List.mem_of_getElem? (i := 70) rfl)) (hw _ (List.mem_of_getElem? (i := 2) rfl)) (by decide) (by decide)) q169a q169c (g := (mkF m 27 #[.val (.ref a1), .val (.ref b101), .val (.int (1 : Int32))] [(.int (1 : Int32)), (.ref a1), (.ref b101)])) rfl (by rw [hml]; rfl) (Steps.refl _) (argsL := [(.int (1 : Int32))]) (rest := [(.ref b101)]) (lenOf pd_3 rfl) rfl (by show 2 * 0 + _ ≤ _; exact Nat.le_of_eq rfl) (hb hby d7_27) (fun _ _ => ⟨rfl, e164, (by decide : 3 + 1 ≤ _), (by decide : 11 + 5 ≤ _)⟩)
  dsimp only [Pt.U, Pt.locs, Pt.cells, Pt.slots] at X169 l169 y169 z169 st169 hQ169
  subst l169 y169 z169
  obtain ⟨el1, iv1, rfl, ri1, B1, Nq169, Kq169⟩ := hQ169
  have f170 := Nat.le_trans f153 Kq169.1
  have f171 := f154.trans Kq169 all0
  have f172 := f155.keep Kq169
  have f173 := f156.keep Kq169 own_nil
  have f174 := f157.keep Kq169 own_nil
  have f175 := f158.keep Kq169
  have f176 := f159.keep Kq169 all0
  have f177 := f160.keep Kq169
  have f178 := f161.keep Kq169 own_nil
  have f179 := M152.keep Kq169 own_nil
  have f180 := D152.keep Kq169 own_nil
  have f181 := S152.keep Kq169 own_nil
  have f182 := W152.keep Kq169 own_nil
  have N169 := Fr.app N152 Nq169
  have K183 : ∀ t, Steps p.tables e below (T169.setTop (mkF m 30 #[.val (.ref a1), .val (.ref b101), .val (.int (1 : Int32))] [(.ref el1), (.ref b101)])) t → Steps p.tables e below (s₁.setTop (entryFrame m #[(.ref a1)] 3)) t := fun t kt => K168 t (st169.trans kt)
  have neb1 : el1 ≠ b101 := Exa.ne B1.1 f177 (by decide)
  have net1 : el1 ≠ tt := Exa.neArv B1.1 f182 (hw _ (List.mem_of_getElem? (i := 76) rfl))
  obtain ⟨cq184, kq184, q184a, q184b, q184c⟩ := isOf hZ rfl f177
  obtain ⟨_, _, ⟨T184, L184, k184, n184⟩, -, X184, ⟨Lc184, hQ184, l184, y184, z184⟩, st184⟩ := X169.interfaceBack hx (xi := (⟨"java/util/List", "add", "(Ljava/lang/Object;)Z"⟩ : MethodName)) (y := (⟨"java/util/ArrayList", "add", "(Ljava/lang/Object;)Z"⟩ : MethodName)) hown (mvT hZ (hw _ (List.mem_of_getElem? (i := 97) rfl))) (mvT hZ (hw _ (List.mem_of_getElem? (i := 98) rfl))) (mvT hZ (hw _ (List.mem_of_getElem? (i := 99) rfl))) (mvT hZ (hw _ (List.mem_of_getElem? (i := 100) rfl))) (mvT hZ (hw _ (List.mem_of_getElem? (i := 101) rfl))) (mvT hZ (hw _ (List.mem_of_getElem? (i := 102) rfl))) (mvT hZ (hw _ (List.mem_of_getElem? (i := 103) rfl))) (mvT hZ (hw _ (List.mem_of_getElem? (i := 104) rfl))) (by decide) (backOf (W := 0) (rmAD1 l Z a0 hw [] b101 el1 tt kt ((0 : Int32) + (1 : Int32)) el0 T169.heap n0 f170 f177 f179 f180 f181 f182 OV g_b101 gtt (Ins.of_exa B1.1 (hw _ (List.mem_of_getElem? (i := 115) rfl))) ne131) hZ (hw _ (List.mem_of_getElem? (i := 105) rfl)) (hw _ (List.mem_of_getElem? (i := 43) rfl)) (by decide) (by decide)) q184a q184b q184c (g := (mkF m 30 #[.val (.ref a1), .val (.ref b101), .val (.int (1 : Int32))] [(.ref el1), (.ref b101)])) rfl (by rw [hml]; rfl) (Steps.refl _) (argsL := [(.ref el1)]) (rest := []) (lenOf pd_8 rfl) rfl (by show 2 * 0 + _ ≤ _; exact Nat.le_of_eq rfl) (hb hby d7_30) (fun _ _ => ⟨rfl, rfl, (by decide : 4 + 0 ≤ _), (by decide : 16 + 0 ≤ _)⟩)
  dsimp only [Pt.U, Pt.locs, Pt.cells, Pt.slots] at X184 l184 y184 z184 st184 hQ184
  subst l184 y184 z184
  obtain ⟨rfl, Nq184, Kq184, M184, D184, S184, W184⟩ := hQ184
  have f185 := Nat.le_trans f170 Kq184.1
  have f186 := f171.trans Kq184 (allS (Or.inr sz102) (allS (Or.inr sz132) all0))
  have f187 := f172.keep Kq184
  have f188 := f173.keep Kq184 (by simp only [List.mem_cons, List.not_mem_nil, or_false, not_or]; exact ⟨ne_a1_b101, ne129⟩)
  have f189 := f174.keep Kq184 (by simp only [List.mem_cons, List.not_mem_nil, or_false, not_or]; exact ⟨ne_t1_b101, ne130⟩)
  have f190 := f175.keep Kq184
  have f191 := f176.keep Kq184 (allS g_b101 (allS gtt all0))
  have f192 := f177.keep Kq184
  have f193 := f178.keep Kq184 (by simp only [List.mem_cons, List.not_mem_nil, or_false, not_or]; exact ⟨neb0, net0⟩)
  have f194 := B1.keep Kq184 (by simp only [List.mem_cons, List.not_mem_nil, or_false, not_or]; exact ⟨neb1, net1⟩)
  have N184 := Fr.app N169 Nq184
  have K195 : ∀ t, Steps p.tables e below (T184.setTop (mkF m 35 #[.val (.ref a1), .val (.ref b101), .val (.int (1 : Int32))] [(.int (1 : Int32))])) t → Steps p.tables e below (s₁.setTop (entryFrame m #[(.ref a1)] 3)) t := fun t kt => K183 t (st184.trans kt)
  have K196 : ∀ t, Steps p.tables e below (T184.setTop (mkF m 17 #[.val (.ref a1), .val (.ref b101), .val (.int ((1 : Int32) + (1 : Int32)))] [(.ref a1), (.int ((1 : Int32) + (1 : Int32)))])) t → Steps p.tables e below (s₁.setTop (entryFrame m #[(.ref a1)] 3)) t := by
    intro t kt
    refine K195 t ?_
    show Steps p.tables e below (T184.setTop (mkF m 35 #[.val (.ref a1), .val (.ref b101), .val (.int (1 : Int32))] [(.int (1 : Int32))])) _
    refine XS.pop X184.here hx rfl (hb hby d7_35) rfl rfl ?_
    show Steps p.tables e below (T184.setTop (mkF m 36 #[.val (.ref a1), .val (.ref b101), .val (.int (1 : Int32))] [])) _
    refine XS.iinc X184.here hx rfl (hb hby d7_36) rfl (l' := #[.val (.ref a1), .val (.ref b101), .val (.int ((1 : Int32) + (1 : Int32)))]) rfl ?_
    show Steps p.tables e below (T184.setTop (mkF m 39 #[.val (.ref a1), .val (.ref b101), .val (.int ((1 : Int32) + (1 : Int32)))] [])) _
    refine XS.goto X184.here hx rfl (pc0 := 39) (pc' := 15) rfl (hb hby d7_39) (by decide) (by decide) ?_
    show Steps p.tables e below (T184.setTop (mkF m 15 #[.val (.ref a1), .val (.ref b101), .val (.int ((1 : Int32) + (1 : Int32)))] [])) _
    refine XS.iloadN X184.here hx rfl (hb hby d7_15) rfl ?_
    show Steps p.tables e below (T184.setTop (mkF m 16 #[.val (.ref a1), .val (.ref b101), .val (.int ((1 : Int32) + (1 : Int32)))] [(.int ((1 : Int32) + (1 : Int32)))])) _
    refine XS.aloadN X184.here hx rfl (hb hby d7_16) rfl rfl ?_
    exact kt
  obtain ⟨T197, X197, e197, st197⟩ := getF X184 hx hZ hown (host := "") (Or.inl (hw _ (List.mem_of_getElem? (i := 13) rfl))) Via.refl rfl f188 (g := (mkF m 17 #[.val (.ref a1), .val (.ref b101), .val (.int ((1 : Int32) + (1 : Int32)))] [(.ref a1), (.int ((1 : Int32) + (1 : Int32)))])) rfl rfl (hb hby d7_17)
  have K198 : ∀ t, Steps p.tables e below (T197.setTop (mkF m 20 #[.val (.ref a1), .val (.ref b101), .val (.int ((1 : Int32) + (1 : Int32)))] [(.ref t1), (.int ((1 : Int32) + (1 : Int32)))])) t → Steps p.tables e below (s₁.setTop (entryFrame m #[(.ref a1)] 3)) t := fun t kt => K196 t (st197 t kt)
  obtain ⟨cl199, Ar199, q199, S199, M199, H199, G199⟩ := id f189
  have K200 : ∀ t, Steps p.tables e below (T197.setTop (mkF m 27 #[.val (.ref a1), .val (.ref b101), .val (.int ((1 : Int32) + (1 : Int32)))] [(.int ((1 : Int32) + (1 : Int32))), (.ref a1), (.ref b101)])) t → Steps p.tables e below (s₁.setTop (entryFrame m #[(.ref a1)] 3)) t := by
    intro t kt
    refine K198 t ?_
    show Steps p.tables e below (T197.setTop (mkF m 20 #[.val (.ref a1), .val (.ref b101), .val (.int ((1 : Int32) + (1 : Int32)))] [(.ref t1), (.int ((1 : Int32) + (1 : Int32)))])) _
    refine X197.arraylength hx (by rw [e197]; exact Ar199.1) (State.isArrayOf_alike hZ.alike Ar199.2.1) (g := (mkF m 20 #[.val (.ref a1), .val (.ref b101), .val (.int ((1 : Int32) + (1 : Int32)))] [(.ref t1), (.int ((1 : Int32) + (1 : Int32)))])) rfl rfl (hb hby d7_20) _ ?_
    rw [len_of S199 M199]
    show Steps p.tables e below (T197.setTop (mkF m 21 #[.val (.ref a1), .val (.ref b101), .val (.int ((1 : Int32) + (1 : Int32)))] [(.int (3 : Int32)), (.int ((1 : Int32) + (1 : Int32)))])) _
    refine XS.icmpNo X197.here hx rfl (hb hby d7_21) rfl (tlt (by decide : ((1 : Int32) + (1 : Int32)) < (3 : Int32))).2.1 ?_
    show Steps p.tables e below (T197.setTop (mkF m 24 #[.val (.ref a1), .val (.ref b101), .val (.int ((1 : Int32) + (1 : Int32)))] [])) _
    refine XS.aloadN X197.here hx rfl (hb hby d7_24) rfl rfl ?_
    show Steps p.tables e below (T197.setTop (mkF m 25 #[.val (.ref a1), .val (.ref b101), .val (.int ((1 : Int32) + (1 : Int32)))] [(.ref b101)])) _
    refine XS.aloadN X197.here hx rfl (hb hby d7_25) rfl rfl ?_
    show Steps p.tables e below (T197.setTop (mkF m 26 #[.val (.ref a1), .val (.ref b101), .val (.int ((1 : Int32) + (1 : Int32)))] [(.ref a1), (.ref b101)])) _
    refine XS.iloadN X197.here hx rfl (hb hby d7_26) rfl ?_
    exact kt
  have ix2 : ((1 : Int32) + (1 : Int32)) = (2 : Int32) := by decide
  have K201 : ∀ t, Steps p.tables e below (T197.setTop (mkF m 27 #[.val (.ref a1), .val (.ref b101), .val (.int (2 : Int32))] [(.int (2 : Int32)), (.ref a1), (.ref b101)])) t → Steps p.tables e below (s₁.setTop (entryFrame m #[(.ref a1)] 3)) t := by
    rw [← ix2]; exact K200
  obtain ⟨cq202, kq202, q202a, q202b, q202c⟩ := isOf hZ e197 f187
  obtain ⟨_, _, ⟨T202, L202, k202, n202⟩, -, X202, ⟨Lc202, hQ202, l202, y202, z202⟩, st202⟩ := X197.virtualBack hx (y := (⟨"com/example/tranchery/tranchery/Cents", "amount", "(I)Ljava/math/BigDecimal;"⟩ : MethodName)) (z := (⟨"com/example/tranchery/tranchery/Cents", "amount", "(I)Ljava/math/BigDecimal;"⟩ : MethodName)) hown (mvT hZ (hw _ (List.mem_of_getElem? (i := 66) rfl))) (mvT hZ (hw _ (List.mem_of_getElem? (i := 67) rfl))) (notFace_of_selects (args := #[]) (mvT hZ (hw _ (List.mem_of_getElem? (i := 69) rfl)))) (mvT hZ (hw _ (List.mem_of_getElem? (i := 69) rfl))) (mvT hZ (hw _ (List.mem_of_getElem? (i := 68) rfl))) (by decide) (backOf (W := 1) (rmAM2 l Z a0 hw [] a1 t1 k1 x0 x1 x2 az z2 cz T184.heap n0 f185 f187 f188 f189 f190 hq2 (ZZ.ext f191.2)) hZ (hw _ (List.mem_of_getElem? (i := 70) rfl)) (hw _ (List.mem_of_getElem? (i := 2) rfl)) (by decide) (by decide)) q202a q202c (g := (mkF m 27 #[.val (.ref a1), .val (.ref b101), .val (.int (2 : Int32))] [(.int (2 : Int32)), (.ref a1), (.ref b101)])) rfl (by rw [hml]; rfl) (Steps.refl _) (argsL := [(.int (2 : Int32))]) (rest := [(.ref b101)]) (lenOf pd_3 rfl) rfl (by show 2 * 0 + _ ≤ _; exact Nat.le_of_eq rfl) (hb hby d7_27) (fun _ _ => ⟨rfl, e197, (by decide : 4 + 1 ≤ _), (by decide : 16 + 5 ≤ _)⟩)
  dsimp only [Pt.U, Pt.locs, Pt.cells, Pt.slots] at X202 l202 y202 z202 st202 hQ202
  subst l202 y202 z202
  obtain ⟨el2, iv2, rfl, ri2, B2, Nq202, Kq202⟩ := hQ202
  have f203 := Nat.le_trans f185 Kq202.1
  have f204 := f186.trans Kq202 all0
  have f205 := f187.keep Kq202
  have f206 := f188.keep Kq202 own_nil
  have f207 := f189.keep Kq202 own_nil
  have f208 := f190.keep Kq202
  have f209 := f191.keep Kq202 all0
  have f210 := f192.keep Kq202
  have f211 := f193.keep Kq202 own_nil
  have f212 := f194.keep Kq202 own_nil
  have f213 := M184.keep Kq202 own_nil
  have f214 := D184.keep Kq202 own_nil
  have f215 := S184.keep Kq202 own_nil
  have f216 := W184.keep Kq202 own_nil
  have N202 := Fr.app N184 Nq202
  have K217 : ∀ t, Steps p.tables e below (T202.setTop (mkF m 30 #[.val (.ref a1), .val (.ref b101), .val (.int (2 : Int32))] [(.ref el2), (.ref b101)])) t → Steps p.tables e below (s₁.setTop (entryFrame m #[(.ref a1)] 3)) t := fun t kt => K201 t (st202.trans kt)
  have neb2 : el2 ≠ b101 := Exa.ne B2.1 f210 (by decide)
  have net2 : el2 ≠ tt := Exa.neArv B2.1 f216 (hw _ (List.mem_of_getElem? (i := 76) rfl))
  obtain ⟨cq218, kq218, q218a, q218b, q218c⟩ := isOf hZ rfl f210
  obtain ⟨_, _, ⟨T218, L218, k218, n218⟩, -, X218, ⟨Lc218, hQ218, l218, y218, z218⟩, st218⟩ := X202.interfaceBack hx (xi := (⟨"java/util/List", "add", "(Ljava/lang/Object;)Z"⟩ : MethodName)) (y := (⟨"java/util/ArrayList", "add", "(Ljava/lang/Object;)Z"⟩ : MethodName)) hown (mvT hZ (hw _ (List.mem_of_getElem? (i := 97) rfl))) (mvT hZ (hw _ (List.mem_of_getElem? (i := 98) rfl))) (mvT hZ (hw _ (List.mem_of_getElem? (i := 99) rfl))) (mvT hZ (hw _ (List.mem_of_getElem? (i := 100) rfl))) (mvT hZ (hw _ (List.mem_of_getElem? (i := 101) rfl))) (mvT hZ (hw _ (List.mem_of_getElem? (i := 102) rfl))) (mvT hZ (hw _ (List.mem_of_getElem? (i := 103) rfl))) (mvT hZ (hw _ (List.mem_of_getElem? (i := 104) rfl))) (by decide) (backOf (W := 0) (rmAD2 l Z a0 hw [] b101 el2 tt kt (((0 : Int32) + (1 : Int32)) + (1 : Int32)) el0 el1 T202.heap n0 f203 f210 f213 f214 f215 f216 OV g_b101 gtt (Ins.of_exa B2.1 (hw _ (List.mem_of_getElem? (i := 115) rfl))) ne131) hZ (hw _ (List.mem_of_getElem? (i := 105) rfl)) (hw _ (List.mem_of_getElem? (i := 43) rfl)) (by decide) (by decide)) q218a q218b q218c (g := (mkF m 30 #[.val (.ref a1), .val (.ref b101), .val (.int (2 : Int32))] [(.ref el2), (.ref b101)])) rfl (by rw [hml]; rfl) (Steps.refl _) (argsL := [(.ref el2)]) (rest := []) (lenOf pd_8 rfl) rfl (by show 2 * 0 + _ ≤ _; exact Nat.le_of_eq rfl) (hb hby d7_30) (fun _ _ => ⟨rfl, rfl, (by decide : 5 + 0 ≤ _), (by decide : 21 + 0 ≤ _)⟩)
  dsimp only [Pt.U, Pt.locs, Pt.cells, Pt.slots] at X218 l218 y218 z218 st218 hQ218
  subst l218 y218 z218
  obtain ⟨rfl, Nq218, Kq218, M218, D218, S218, W218⟩ := hQ218
  have f219 := Nat.le_trans f203 Kq218.1
  have f220 := f204.trans Kq218 (allS (Or.inr sz102) (allS (Or.inr sz132) all0))
  have f221 := f205.keep Kq218
  have f222 := f206.keep Kq218 (by simp only [List.mem_cons, List.not_mem_nil, or_false, not_or]; exact ⟨ne_a1_b101, ne129⟩)
  have f223 := f207.keep Kq218 (by simp only [List.mem_cons, List.not_mem_nil, or_false, not_or]; exact ⟨ne_t1_b101, ne130⟩)
  have f224 := f208.keep Kq218
  have f225 := f209.keep Kq218 (allS g_b101 (allS gtt all0))
  have f226 := f210.keep Kq218
  have f227 := f211.keep Kq218 (by simp only [List.mem_cons, List.not_mem_nil, or_false, not_or]; exact ⟨neb0, net0⟩)
  have f228 := f212.keep Kq218 (by simp only [List.mem_cons, List.not_mem_nil, or_false, not_or]; exact ⟨neb1, net1⟩)
  have f229 := B2.keep Kq218 (by simp only [List.mem_cons, List.not_mem_nil, or_false, not_or]; exact ⟨neb2, net2⟩)
  have N218 := Fr.app N202 Nq218
  have K230 : ∀ t, Steps p.tables e below (T218.setTop (mkF m 35 #[.val (.ref a1), .val (.ref b101), .val (.int (2 : Int32))] [(.int (1 : Int32))])) t → Steps p.tables e below (s₁.setTop (entryFrame m #[(.ref a1)] 3)) t := fun t kt => K217 t (st218.trans kt)
  have K231 : ∀ t, Steps p.tables e below (T218.setTop (mkF m 17 #[.val (.ref a1), .val (.ref b101), .val (.int ((2 : Int32) + (1 : Int32)))] [(.ref a1), (.int ((2 : Int32) + (1 : Int32)))])) t → Steps p.tables e below (s₁.setTop (entryFrame m #[(.ref a1)] 3)) t := by
    intro t kt
    refine K230 t ?_
    show Steps p.tables e below (T218.setTop (mkF m 35 #[.val (.ref a1), .val (.ref b101), .val (.int (2 : Int32))] [(.int (1 : Int32))])) _
    refine XS.pop X218.here hx rfl (hb hby d7_35) rfl rfl ?_
    show Steps p.tables e below (T218.setTop (mkF m 36 #[.val (.ref a1), .val (.ref b101), .val (.int (2 : Int32))] [])) _
    refine XS.iinc X218.here hx rfl (hb hby d7_36) rfl (l' := #[.val (.ref a1), .val (.ref b101), .val (.int ((2 : Int32) + (1 : Int32)))]) rfl ?_
    show Steps p.tables e below (T218.setTop (mkF m 39 #[.val (.ref a1), .val (.ref b101), .val (.int ((2 : Int32) + (1 : Int32)))] [])) _
    refine XS.goto X218.here hx rfl (pc0 := 39) (pc' := 15) rfl (hb hby d7_39) (by decide) (by decide) ?_
    show Steps p.tables e below (T218.setTop (mkF m 15 #[.val (.ref a1), .val (.ref b101), .val (.int ((2 : Int32) + (1 : Int32)))] [])) _
    refine XS.iloadN X218.here hx rfl (hb hby d7_15) rfl ?_
    show Steps p.tables e below (T218.setTop (mkF m 16 #[.val (.ref a1), .val (.ref b101), .val (.int ((2 : Int32) + (1 : Int32)))] [(.int ((2 : Int32) + (1 : Int32)))])) _
    refine XS.aloadN X218.here hx rfl (hb hby d7_16) rfl rfl ?_
    exact kt
  obtain ⟨T232, X232, e232, st232⟩ := getF X218 hx hZ hown (host := "") (Or.inl (hw _ (List.mem_of_getElem? (i := 13) rfl))) Via.refl rfl f222 (g := (mkF m 17 #[.val (.ref a1), .val (.ref b101), .val (.int ((2 : Int32) + (1 : Int32)))] [(.ref a1), (.int ((2 : Int32) + (1 : Int32)))])) rfl rfl (hb hby d7_17)
  have K233 : ∀ t, Steps p.tables e below (T232.setTop (mkF m 20 #[.val (.ref a1), .val (.ref b101), .val (.int ((2 : Int32) + (1 : Int32)))] [(.ref t1), (.int ((2 : Int32) + (1 : Int32)))])) t → Steps p.tables e below (s₁.setTop (entryFrame m #[(.ref a1)] 3)) t := fun t kt => K231 t (st232 t kt)
  obtain ⟨cl234, Ar234, q234, S234, M234, H234, G234⟩ := id f223
  have K235 : ∀ t, Steps p.tables e below (T232.setTop (mkF m 43 #[.val (.ref a1), .val (.ref b101), .val (.int ((2 : Int32) + (1 : Int32)))] [(.ref b101)])) t → Steps p.tables e below (s₁.setTop (entryFrame m #[(.ref a1)] 3)) t := by
    intro t kt
    refine K233 t ?_
    show Steps p.tables e below (T232.setTop (mkF m 20 #[.val (.ref a1), .val (.ref b101), .val (.int ((2 : Int32) + (1 : Int32)))] [(.ref t1), (.int ((2 : Int32) + (1 : Int32)))])) _
    refine X232.arraylength hx (by rw [e232]; exact Ar234.1) (State.isArrayOf_alike hZ.alike Ar234.2.1) (g := (mkF m 20 #[.val (.ref a1), .val (.ref b101), .val (.int ((2 : Int32) + (1 : Int32)))] [(.ref t1), (.int ((2 : Int32) + (1 : Int32)))])) rfl rfl (hb hby d7_20) _ ?_
    rw [len_of S234 M234]
    show Steps p.tables e below (T232.setTop (mkF m 21 #[.val (.ref a1), .val (.ref b101), .val (.int ((2 : Int32) + (1 : Int32)))] [(.int (3 : Int32)), (.int ((2 : Int32) + (1 : Int32)))])) _
    refine XS.icmpYes X232.here hx rfl (pc0 := 21) (pc' := 42) rfl (hb hby d7_21) rfl (flt (by decide : ¬ (((2 : Int32) + (1 : Int32)) < (3 : Int32)))).2.1 (by decide) (by decide) ?_
    show Steps p.tables e below (T232.setTop (mkF m 42 #[.val (.ref a1), .val (.ref b101), .val (.int ((2 : Int32) + (1 : Int32)))] [])) _
    refine XS.aloadN X232.here hx rfl (hb hby d7_42) rfl rfl ?_
    exact kt
  obtain ⟨fs, hr, hrun, hended, hW, hsame⟩ := X232.leave (v := some (.ref b101)) (fun h => by rw [Bd.returns] at h; cases h) (hlocks := hlk)
  refine ⟨_, _, K235 _ ?_, hrun, hended, _, _, rfl, ?_, ⟨_, rfl⟩, hW, hsame.mono (by decide) (by decide)⟩
  · exact retOut X232 hx Bd.returns rfl (Or.inr (Or.inr (Or.inr (Or.inr ⟨rfl, rfl, rfl⟩)))) (hb hby d7_43) hr
  · show QrmLS Z x0 x1 x2 h0 n0 _ T232.heap _
    rw [e232]
    exact ⟨_, tt, kt, el0, el1, el2, rfl, f226, D218, S218, W218, ⟨iv0, ri0, f227⟩, ⟨iv1, ri1, f228⟩, ⟨iv2, ri2, f229⟩, N218, f220⟩
theorem ef_rmL0 (m : MethodId) (x0 : Addr) : entryFrame m #[(.ref x0)] 3 = mkF m 0 #[.val (.ref x0), .unset, .unset] [] := by first | (simp [entryFrame, mkF, argsToLocals, Value.category]; done) | rfl
def QrmL0 (Z : State) (h0 : Heap) (n0 : Nat) (v : Option Value) (h : Heap) (L : List Loc) : Prop := ∃ b : Addr, v = some (.ref b) ∧ Exa Z h b "java/util/ArrayList" ∧ Fld Z h b "java/util/ArrayList" "size" "I" (.int (0 : Int32)) ∧ Fr n0 L ∧ Keep h0 h []
set_option maxRecDepth 65536 in
set_option maxHeartbeats 40000000 in
theorem rmL0 (l : Launch) (Z : State) (a0 : Array Value) (hw : ∀ d ∈ tables_1, d.before a0 Z = true) (ws : List Jvm.Cond) (a1 t1 : Addr) (k1 : ClassId) (ae : Value) (h0 : Heap) (n0 : Nat) (Z0 : n0 ≤ h0.size) (E1 : Exa Z h0 a1 "com/example/tranchery/tranchery/Cents") (F1 : Fld Z h0 a1 "com/example/tranchery/tranchery/Cents" "amounts" "[J" (.ref t1)) (V1 : Arv Z h0 t1 k1 .long (0 : Int32) [] (.long (0 : Int64))) (B1 : Exa Z h0 t1 "[J") (re : ae.isRef = true) (SE : Sta Z Z.heap "java/util/ArrayList" "EMPTY_ELEMENTDATA" "[Ljava/lang/Object;" ae) (X00 : Old Z n0 h0) :
    MetFree l (⟨"com/example/tranchery/tranchery/Cents", "amounts", "()Ljava/util/List;"⟩ : MethodName) (head1 (Jvm.Cond.code (⟨"com/example/tranchery/tranchery/Cents", "amounts", "()Ljava/util/List;"⟩ : MethodName) prog_5_method_8_code 3 (some (.object "java/util/List")) :: ws) ({ frames := 4, cells := 1, slots := 3, locals := 50 } : Room)) (fun a U => a = #[(.ref a1)] ∧ Z.Warmed39 U.vm ∧ U.heap = h0) (fun _ _ _ _ _ => True) (fun _ U o U' => ∃ v L, o = .returned v ∧ QrmL0 Z h0 n0 v U'.heap L ∧ FrameEnd U o U' L ({ frames := 4, cells := 1, slots := 3, locals := 50 } : Room).cells ({ frames := 4, cells := 1, slots := 3, locals := 50 } : Room).slots) := by
  refine MetFree.of_bodySF (plainFor_of_name pn_2) hisR ?_
  intro p e s m args below meth c s₁ Bd hml0 hP hK
  obtain ⟨rfl, hZ, hh⟩ := hP
  have hx := Bd.exec
  have hlk : meth.locks = false := BodyLoose.notSynchronized Bd
  have hby := Bd.bytes
  have hml : c.maxLocals = 3 := hml0
  have hown : s.vm.findClass "com/example/tranchery/tranchery/Cents" = some m.cls := findClass_of_methodNamed Bd.named
  have hnm := (name_of_methodNamed Bd.named Bd.method).1
  have X0 : Stand p l e ({ frames := 4, cells := 1, slots := 3, locals := 50 } : Room) s m #[(.ref a1)] below meth c s₁ [] 0 0 := Stand.of_body Bd
  have e0 : s₁.heap = h0 := by rw [← hh, Bd.state]; rfl
  have N0 := Fr.nil n0
  have K0 : ∀ t, Steps p.tables e below (s₁.setTop (mkF m 0 #[.val (.ref a1), .unset, .unset] [])) t → Steps p.tables e below (s₁.setTop (entryFrame m #[(.ref a1)] 3)) t := fun t k => castTop (ef_rmL0 m a1) k
  have KK0 : Keep h0 h0 [] := Keep.refl _ _
  
  obtain ⟨T101, h101, X101, e101, E101, A101, D101, U101, st101⟩ := newO X0 hx hZ hown (hw _ (List.mem_of_getElem? (i := 41) rfl)) (hw _ (List.mem_of_getElem? (i := 42) rfl)) (hw _ (List.mem_of_getElem? (i := 43) rfl)) e0 (g := (mkF m 0 #[.val (.ref a1), .unset, .unset] [])) rfl (hb hby d7_0) (by decide) (by decide)
  obtain ⟨b101, g101⟩ : ∃ z, z = h0.size := ⟨_, rfl⟩
  rw [← g101] at A101 D101 U101 st101
  have ne_a1_b101 : a1 ≠ b101 := by rw [g101]; exact Nat.ne_of_lt E1.lt
  have ne_t1_b101 : t1 ≠ b101 := by rw [g101]; exact Nat.ne_of_lt V1.lt
  have sz102 : h0.size ≤ b101 := Nat.le_trans KK0.1 (Nat.le_of_eq g101.symm)
  have g_b101 : n0 ≤ b101 := Nat.le_trans Z0 (Nat.le_of_eq g101.symm)
  have f103 := Nat.le_trans Z0 E101.1
  have f104 := KK0.ext E101
  have f105 := E1.ext E101
  have f106 := F1.ext E101
  have f107 := V1.ext E101
  have f108 := B1.ext E101
  have f109 := X00.ext E101
  have F110 : Fld Z h101 b101 "java/util/AbstractList" "modCount" "I" (.int (0 : Int32)) := D101 (Or.inl (hw _ (List.mem_of_getElem? (i := 61) rfl))) (ty := .int) (by decide)
  have F111 : Fld Z h101 b101 "java/util/ArrayList" "elementData" "[Ljava/lang/Object;" .null := D101 (Or.inl (hw _ (List.mem_of_getElem? (i := 65) rfl))) (ty := (.array (.object "java/lang/Object"))) (by decide)
  have F112 : Fld Z h101 b101 "java/util/ArrayList" "size" "I" (.int (0 : Int32)) := D101 (Or.inl (hw _ (List.mem_of_getElem? (i := 109) rfl))) (ty := .int) (by decide)
  have K113 : ∀ t, Steps p.tables e below (T101.setTop (mkF m 3 #[.val (.ref a1), .unset, .unset] [(.ref b101)])) t → Steps p.tables e below (s₁.setTop (entryFrame m #[(.ref a1)] 3)) t := fun t kt => K0 t (st101 t kt)
  have K114 : ∀ t, Steps p.tables e below (T101.setTop (mkF m 5 #[.val (.ref a1), .unset, .unset] [(.ref a1), (.ref b101), (.ref b101)])) t → Steps p.tables e below (s₁.setTop (entryFrame m #[(.ref a1)] 3)) t := by
    intro t kt
    refine K113 t ?_
    show Steps p.tables e below (T101.setTop (mkF m 3 #[.val (.ref a1), .unset, .unset] [(.ref b101)])) _
    refine XS.dup X101.here hx rfl (hb hby d7_3) rfl rfl ?_
    show Steps p.tables e below (T101.setTop (mkF m 4 #[.val (.ref a1), .unset, .unset] [(.ref b101), (.ref b101)])) _
    refine XS.aloadN X101.here hx rfl (hb hby d7_4) rfl rfl ?_
    exact kt
  obtain ⟨T115, X115, e115, st115⟩ := getF X101 hx hZ hown (host := "") (Or.inl (hw _ (List.mem_of_getElem? (i := 13) rfl))) Via.refl e101 f106 (g := (mkF m 5 #[.val (.ref a1), .unset, .unset] [(.ref a1), (.ref b101), (.ref b101)])) rfl rfl (hb hby d7_5)
  have K116 : ∀ t, Steps p.tables e below (T115.setTop (mkF m 8 #[.val (.ref a1), .unset, .unset] [(.ref t1), (.ref b101), (.ref b101)])) t → Steps p.tables e below (s₁.setTop (entryFrame m #[(.ref a1)] 3)) t := fun t kt => K114 t (st115 t kt)
  obtain ⟨cl117, Ar117, q117, S117, M117, H117, G117⟩ := id f107
  have K118 : ∀ t, Steps p.tables e below (T115.setTop (mkF m 9 #[.val (.ref a1), .unset, .unset] [(.int (0 : Int32)), (.ref b101), (.ref b101)])) t → Steps p.tables e below (s₁.setTop (entryFrame m #[(.ref a1)] 3)) t := by
    intro t kt
    refine K116 t ?_
    show Steps p.tables e below (T115.setTop (mkF m 8 #[.val (.ref a1), .unset, .unset] [(.ref t1), (.ref b101), (.ref b101)])) _
    refine X115.arraylength hx (by rw [e115]; exact Ar117.1) (State.isArrayOf_alike hZ.alike Ar117.2.1) (g := (mkF m 8 #[.val (.ref a1), .unset, .unset] [(.ref t1), (.ref b101), (.ref b101)])) rfl rfl (hb hby d7_8) _ ?_
    rw [len_of S117 M117]
    exact kt
  obtain ⟨_, _, ⟨T119, L119, k119, n119⟩, -, X119, ⟨Lc119, hQ119, l119, y119, z119⟩, st119⟩ := X115.specialBack hx (y := (⟨"java/util/ArrayList", "<init>", "(I)V"⟩ : MethodName)) rfl hown (mvT hZ (hw _ (List.mem_of_getElem? (i := 44) rfl))) (mvT hZ (hw _ (List.mem_of_getElem? (i := 45) rfl))) (mvT hZ (hw _ (List.mem_of_getElem? (i := 46) rfl))) (by decide) (backOf (W := 1) (rmAI0 l Z a0 hw [] b101 ae h101 n0 f103 A101 F110 F111 F112 g_b101 re SE f109) hZ (hw _ (List.mem_of_getElem? (i := 46) rfl)) (hw _ (List.mem_of_getElem? (i := 43) rfl)) (by decide) (by decide)) (g := (mkF m 9 #[.val (.ref a1), .unset, .unset] [(.int (0 : Int32)), (.ref b101), (.ref b101)])) rfl (by rw [hml]; rfl) (Steps.refl _) (a := b101) (argsL := [(.int (0 : Int32))]) (rest := [(.ref b101)]) (lenOf pd_7 rfl) rfl (by show 2 * 0 + _ ≤ _; exact Nat.le_of_eq rfl) (hb hby d7_9) (fun _ _ => ⟨rfl, e115, (by decide : 1 + 0 ≤ _), (by decide : 3 + 0 ≤ _)⟩)
  dsimp only [Pt.U, Pt.locs, Pt.cells, Pt.slots] at X119 l119 y119 z119 st119 hQ119
  subst l119 y119 z119
  obtain ⟨rfl, Nq119, Kq119, S119⟩ := hQ119
  have f120 := Nat.le_trans f103 Kq119.1
  have f121 := f104.trans Kq119 (allS (Or.inr sz102) all0)
  have f122 := f105.keep Kq119
  have f123 := f106.keep Kq119 (own_nin ne_a1_b101)
  have f124 := f107.keep Kq119 (own_nin ne_t1_b101)
  have f125 := f108.keep Kq119
  have f126 := f109.keep Kq119 (allS g_b101 all0)
  have f127 := A101.keep Kq119
  have N119 := Fr.app N0 Nq119
  have K128 : ∀ t, Steps p.tables e below (T119.setTop (mkF m 12 #[.val (.ref a1), .unset, .unset] [(.ref b101)])) t → Steps p.tables e below (s₁.setTop (entryFrame m #[(.ref a1)] 3)) t := fun t kt => K118 t (st119.trans kt)
  have K129 : ∀ t, Steps p.tables e below (T119.setTop (mkF m 17 #[.val (.ref a1), .val (.ref b101), .val (.int (0 : Int32))] [(.ref a1), (.int (0 : Int32))])) t → Steps p.tables e below (s₁.setTop (entryFrame m #[(.ref a1)] 3)) t := by
    intro t kt
    refine K128 t ?_
    show Steps p.tables e below (T119.setTop (mkF m 12 #[.val (.ref a1), .unset, .unset] [(.ref b101)])) _
    refine XS.astoreN X119.here hx rfl (hb hby d7_12) rfl rfl (l' := #[.val (.ref a1), .val (.ref b101), .unset]) rfl ?_
    show Steps p.tables e below (T119.setTop (mkF m 13 #[.val (.ref a1), .val (.ref b101), .unset] [])) _
    refine XS.iconst X119.here hx rfl (hb hby d7_13) ?_
    show Steps p.tables e below (T119.setTop (mkF m 14 #[.val (.ref a1), .val (.ref b101), .unset] [(.int (0 : Int32))])) _
    refine XS.istoreN X119.here hx rfl (hb hby d7_14) rfl (l' := #[.val (.ref a1), .val (.ref b101), .val (.int (0 : Int32))]) rfl ?_
    show Steps p.tables e below (T119.setTop (mkF m 15 #[.val (.ref a1), .val (.ref b101), .val (.int (0 : Int32))] [])) _
    refine XS.iloadN X119.here hx rfl (hb hby d7_15) rfl ?_
    show Steps p.tables e below (T119.setTop (mkF m 16 #[.val (.ref a1), .val (.ref b101), .val (.int (0 : Int32))] [(.int (0 : Int32))])) _
    refine XS.aloadN X119.here hx rfl (hb hby d7_16) rfl rfl ?_
    exact kt
  obtain ⟨T130, X130, e130, st130⟩ := getF X119 hx hZ hown (host := "") (Or.inl (hw _ (List.mem_of_getElem? (i := 13) rfl))) Via.refl rfl f123 (g := (mkF m 17 #[.val (.ref a1), .val (.ref b101), .val (.int (0 : Int32))] [(.ref a1), (.int (0 : Int32))])) rfl rfl (hb hby d7_17)
  have K131 : ∀ t, Steps p.tables e below (T130.setTop (mkF m 20 #[.val (.ref a1), .val (.ref b101), .val (.int (0 : Int32))] [(.ref t1), (.int (0 : Int32))])) t → Steps p.tables e below (s₁.setTop (entryFrame m #[(.ref a1)] 3)) t := fun t kt => K129 t (st130 t kt)
  obtain ⟨cl132, Ar132, q132, S132, M132, H132, G132⟩ := id f124
  have K133 : ∀ t, Steps p.tables e below (T130.setTop (mkF m 43 #[.val (.ref a1), .val (.ref b101), .val (.int (0 : Int32))] [(.ref b101)])) t → Steps p.tables e below (s₁.setTop (entryFrame m #[(.ref a1)] 3)) t := by
    intro t kt
    refine K131 t ?_
    show Steps p.tables e below (T130.setTop (mkF m 20 #[.val (.ref a1), .val (.ref b101), .val (.int (0 : Int32))] [(.ref t1), (.int (0 : Int32))])) _
    refine X130.arraylength hx (by rw [e130]; exact Ar132.1) (State.isArrayOf_alike hZ.alike Ar132.2.1) (g := (mkF m 20 #[.val (.ref a1), .val (.ref b101), .val (.int (0 : Int32))] [(.ref t1), (.int (0 : Int32))])) rfl rfl (hb hby d7_20) _ ?_
    rw [len_of S132 M132]
    show Steps p.tables e below (T130.setTop (mkF m 21 #[.val (.ref a1), .val (.ref b101), .val (.int (0 : Int32))] [(.int (0 : Int32)), (.int (0 : Int32))])) _
    refine XS.icmpYes X130.here hx rfl (pc0 := 21) (pc' := 42) rfl (hb hby d7_21) rfl (flt (by decide : ¬ ((0 : Int32) < (0 : Int32)))).2.1 (by decide) (by decide) ?_
    show Steps p.tables e below (T130.setTop (mkF m 42 #[.val (.ref a1), .val (.ref b101), .val (.int (0 : Int32))] [])) _
    refine XS.aloadN X130.here hx rfl (hb hby d7_42) rfl rfl ?_
    exact kt
  obtain ⟨fs, hr, hrun, hended, hW, hsame⟩ := X130.leave (v := some (.ref b101)) (fun h => by rw [Bd.returns] at h; cases h) (hlocks := hlk)
  refine ⟨_, _, K133 _ ?_, hrun, hended, _, _, rfl, ?_, ⟨_, rfl⟩, hW, hsame.mono (by decide) (by decide)⟩
  · exact retOut X130 hx Bd.returns rfl (Or.inr (Or.inr (Or.inr (Or.inr ⟨rfl, rfl, rfl⟩)))) (hb hby d7_43) hr
  · show QrmL0 Z h0 n0 _ T130.heap _
    rw [e130]
    exact ⟨_, rfl, f127, S119, N119, f121⟩
theorem ef_rmSZ (m : MethodId) (x0 : Addr) : entryFrame m #[(.ref x0)] 1 = mkF m 0 #[.val (.ref x0)] [] := by first | (simp [entryFrame, mkF, argsToLocals, Value.category]; done) | rfl
def QrmSZ (sz : Int32) (h0 : Heap) (n0 : Nat) (v : Option Value) (h : Heap) (L : List Loc) : Prop := v = some (.int sz) ∧ Fr n0 L ∧ h = h0
set_option maxRecDepth 65536 in
set_option maxHeartbeats 40000000 in
theorem rmSZ (l : Launch) (Z : State) (a0 : Array Value) (hw : ∀ d ∈ tables_1, d.before a0 Z = true) (ws : List Jvm.Cond) (a1 : Addr) (sz : Int32) (h0 : Heap) (n0 : Nat) (Z0 : n0 ≤ h0.size) (F1 : Fld Z h0 a1 "java/util/ArrayList" "size" "I" (.int sz)) :
    MetFree l (⟨"java/util/ArrayList", "size", "()I"⟩ : MethodName) (head1 (Jvm.Cond.code (⟨"java/util/ArrayList", "size", "()I"⟩ : MethodName) jdk_38_method_8_code 1 (some .int) :: ws) ({ frames := 0, cells := 0, slots := 0, locals := 0 } : Room)) (fun a U => a = #[(.ref a1)] ∧ Z.Warmed39 U.vm ∧ U.heap = h0) (fun _ _ _ _ _ => True) (fun _ U o U' => ∃ v L, o = .returned v ∧ QrmSZ sz h0 n0 v U'.heap L ∧ FrameEnd U o U' L ({ frames := 0, cells := 0, slots := 0, locals := 0 } : Room).cells ({ frames := 0, cells := 0, slots := 0, locals := 0 } : Room).slots) := by
  refine MetFree.of_bodySF (plainFor_of_name pn_5) hisR ?_
  intro p e s m args below meth c s₁ Bd hml0 hP hK
  obtain ⟨rfl, hZ, hh⟩ := hP
  have hx := Bd.exec
  have hlk : meth.locks = false := BodyLoose.notSynchronized Bd
  have hby := Bd.bytes
  have hml : c.maxLocals = 1 := hml0
  have hown : s.vm.findClass "java/util/ArrayList" = some m.cls := findClass_of_methodNamed Bd.named
  have hnm := (name_of_methodNamed Bd.named Bd.method).1
  have X0 : Stand p l e ({ frames := 0, cells := 0, slots := 0, locals := 0 } : Room) s m #[(.ref a1)] below meth c s₁ [] 0 0 := Stand.of_body Bd
  have e0 : s₁.heap = h0 := by rw [← hh, Bd.state]; rfl
  have N0 := Fr.nil n0
  have K0 : ∀ t, Steps p.tables e below (s₁.setTop (mkF m 0 #[.val (.ref a1)] [])) t → Steps p.tables e below (s₁.setTop (entryFrame m #[(.ref a1)] 1)) t := fun t k => castTop (ef_rmSZ m a1) k
  have KK0 : Keep h0 h0 [] := Keep.refl _ _
  
  have K101 : ∀ t, Steps p.tables e below (s₁.setTop (mkF m 1 #[.val (.ref a1)] [(.ref a1)])) t → Steps p.tables e below (s₁.setTop (entryFrame m #[(.ref a1)] 1)) t := by
    intro t kt
    refine K0 t ?_
    show Steps p.tables e below (s₁.setTop (mkF m 0 #[.val (.ref a1)] [])) _
    refine XS.aloadN X0.here hx rfl (hb hby d19_0) rfl rfl ?_
    exact kt
  obtain ⟨T102, X102, e102, st102⟩ := getF X0 hx hZ hown (host := "") (Or.inl (hw _ (List.mem_of_getElem? (i := 108) rfl))) Via.refl e0 F1 (g := (mkF m 1 #[.val (.ref a1)] [(.ref a1)])) rfl rfl (hb hby d19_1)
  have K103 : ∀ t, Steps p.tables e below (T102.setTop (mkF m 4 #[.val (.ref a1)] [(.int sz)])) t → Steps p.tables e below (s₁.setTop (entryFrame m #[(.ref a1)] 1)) t := fun t kt => K101 t (st102 t kt)
  obtain ⟨fs, hr, hrun, hended, hW, hsame⟩ := X102.leave (v := some (.int sz)) (fun h => by rw [Bd.returns] at h; cases h) (hlocks := hlk)
  refine ⟨_, _, K103 _ ?_, hrun, hended, _, _, rfl, ?_, ⟨_, rfl⟩, hW, hsame.mono (by decide) (by decide)⟩
  · exact retI X102 hx Bd.returns (hb hby d19_4) hr
  · show QrmSZ sz h0 n0 _ T102.heap _
    rw [e102]
    exact ⟨rfl, N0, rfl⟩
theorem ef_rmPC (m : MethodId) (x0 : Int32) (x1 : Int32) : entryFrame m #[(.int x0), (.int x1), .null] 3 = mkF m 0 #[.val (.int x0), .val (.int x1), .val .null] [] := by first | (simp [entryFrame, mkF, argsToLocals, Value.category]; done) | rfl
def QrmPC (p1 : Int32) (h0 : Heap) (n0 : Nat) (v : Option Value) (h : Heap) (L : List Loc) : Prop := v = some (.int p1) ∧ Fr n0 L ∧ h = h0
set_option maxRecDepth 65536 in
set_option maxHeartbeats 40000000 in
theorem rmPC (l : Launch) (Z : State) (a0 : Array Value) (hw : ∀ d ∈ tables_1, d.before a0 Z = true) (ws : List Jvm.Cond) (p1 p2 : Int32) (h0 : Heap) (n0 : Nat) (Z0 : n0 ≤ h0.size) (h1 : ¬ p1 < (0 : Int32)) (h2 : p1 < p2) :
    MetFree l (⟨"jdk/internal/util/Preconditions", "checkIndex", "(IILjava/util/function/BiFunction;)I"⟩ : MethodName) (head1 (Jvm.Cond.code (⟨"jdk/internal/util/Preconditions", "checkIndex", "(IILjava/util/function/BiFunction;)I"⟩ : MethodName) jdk_41_method_11_code 3 (some .int) :: ws) ({ frames := 0, cells := 0, slots := 0, locals := 0 } : Room)) (fun a U => a = #[(.int p1), (.int p2), .null] ∧ Z.Warmed39 U.vm ∧ U.heap = h0) (fun _ _ _ _ _ => True) (fun _ U o U' => ∃ v L, o = .returned v ∧ QrmPC p1 h0 n0 v U'.heap L ∧ FrameEnd U o U' L ({ frames := 0, cells := 0, slots := 0, locals := 0 } : Room).cells ({ frames := 0, cells := 0, slots := 0, locals := 0 } : Room).slots) := by
  refine MetFree.of_bodySF (plainFor_of_name pn_6) hisR ?_
  intro p e s m args below meth c s₁ Bd hml0 hP hK
  obtain ⟨rfl, hZ, hh⟩ := hP
  have hx := Bd.exec
  have hlk : meth.locks = false := BodyLoose.notSynchronized Bd
  have hby := Bd.bytes
  have hml : c.maxLocals = 3 := hml0
  have hown : s.vm.findClass "jdk/internal/util/Preconditions" = some m.cls := findClass_of_methodNamed Bd.named
  have hnm := (name_of_methodNamed Bd.named Bd.method).1
  have X0 : Stand p l e ({ frames := 0, cells := 0, slots := 0, locals := 0 } : Room) s m #[(.int p1), (.int p2), .null] below meth c s₁ [] 0 0 := Stand.of_body Bd
  have e0 : s₁.heap = h0 := by rw [← hh, Bd.state]; rfl
  have N0 := Fr.nil n0
  have K0 : ∀ t, Steps p.tables e below (s₁.setTop (mkF m 0 #[.val (.int p1), .val (.int p2), .val .null] [])) t → Steps p.tables e below (s₁.setTop (entryFrame m #[(.int p1), (.int p2), .null] 3)) t := fun t k => castTop (ef_rmPC m p1 p2) k
  have KK0 : Keep h0 h0 [] := Keep.refl _ _
  
  have K101 : ∀ t, Steps p.tables e below (s₁.setTop (mkF m 17 #[.val (.int p1), .val (.int p2), .val .null] [(.int p1)])) t → Steps p.tables e below (s₁.setTop (entryFrame m #[(.int p1), (.int p2), .null] 3)) t := by
    intro t kt
    refine K0 t ?_
    show Steps p.tables e below (s₁.setTop (mkF m 0 #[.val (.int p1), .val (.int p2), .val .null] [])) _
    refine XS.iloadN X0.here hx rfl (hb hby d22_0) rfl ?_
    show Steps p.tables e below (s₁.setTop (mkF m 1 #[.val (.int p1), .val (.int p2), .val .null] [(.int p1)])) _
    refine XS.ifNo X0.here hx rfl (hb hby d22_1) rfl ((if0 _ _).trans (flt (h1 : ¬ (p1 < (0 : Int32)))).1) ?_
    show Steps p.tables e below (s₁.setTop (mkF m 4 #[.val (.int p1), .val (.int p2), .val .null] [])) _
    refine XS.iloadN X0.here hx rfl (hb hby d22_4) rfl ?_
    show Steps p.tables e below (s₁.setTop (mkF m 5 #[.val (.int p1), .val (.int p2), .val .null] [(.int p1)])) _
    refine XS.iloadN X0.here hx rfl (hb hby d22_5) rfl ?_
    show Steps p.tables e below (s₁.setTop (mkF m 6 #[.val (.int p1), .val (.int p2), .val .null] [(.int p2), (.int p1)])) _
    refine XS.icmpYes X0.here hx rfl (pc0 := 6) (pc' := 16) rfl (hb hby d22_6) rfl (tlt (h2 : p1 < p2)).1 (by decide) (by decide) ?_
    show Steps p.tables e below (s₁.setTop (mkF m 16 #[.val (.int p1), .val (.int p2), .val .null] [])) _
    refine XS.iloadN X0.here hx rfl (hb hby d22_16) rfl ?_
    exact kt
  obtain ⟨fs, hr, hrun, hended, hW, hsame⟩ := X0.leave (v := some (.int p1)) (fun h => by rw [Bd.returns] at h; cases h) (hlocks := hlk)
  refine ⟨_, _, K101 _ ?_, hrun, hended, _, _, rfl, ?_, ⟨_, rfl⟩, hW, hsame.mono (by decide) (by decide)⟩
  · exact retI X0 hx Bd.returns (hb hby d22_17) hr
  · show QrmPC p1 h0 n0 _ s₁.heap _
    rw [e0]
    exact ⟨rfl, N0, rfl⟩
theorem ef_rmOC (m : MethodId) (x0 : Int32) (x1 : Int32) : entryFrame m #[(.int x0), (.int x1)] 2 = mkF m 0 #[.val (.int x0), .val (.int x1)] [] := by first | (simp [entryFrame, mkF, argsToLocals, Value.category]; done) | rfl
def QrmOC (p1 : Int32) (h0 : Heap) (n0 : Nat) (v : Option Value) (h : Heap) (L : List Loc) : Prop := v = some (.int p1) ∧ Fr n0 L ∧ h = h0
set_option maxRecDepth 65536 in
set_option maxHeartbeats 40000000 in
theorem rmOC (l : Launch) (Z : State) (a0 : Array Value) (hw : ∀ d ∈ tables_1, d.before a0 Z = true) (ws : List Jvm.Cond) (p1 p2 : Int32) (h0 : Heap) (n0 : Nat) (Z0 : n0 ≤ h0.size) (h1 : ¬ p1 < (0 : Int32)) (h2 : p1 < p2) :
    MetFree l (⟨"java/util/Objects", "checkIndex", "(II)I"⟩ : MethodName) (head1 (Jvm.Cond.code (⟨"java/util/Objects", "checkIndex", "(II)I"⟩ : MethodName) jdk_31_method_17_code 2 (some .int) :: ws) ({ frames := 1, cells := 0, slots := 0, locals := 14 } : Room)) (fun a U => a = #[(.int p1), (.int p2)] ∧ Z.Warmed39 U.vm ∧ U.heap = h0) (fun _ _ _ _ _ => True) (fun _ U o U' => ∃ v L, o = .returned v ∧ QrmOC p1 h0 n0 v U'.heap L ∧ FrameEnd U o U' L ({ frames := 1, cells := 0, slots := 0, locals := 14 } : Room).cells ({ frames := 1, cells := 0, slots := 0, locals := 14 } : Room).slots) := by
  refine MetFree.of_bodySF (plainFor_of_name pn_7) hisR ?_
  intro p e s m args below meth c s₁ Bd hml0 hP hK
  obtain ⟨rfl, hZ, hh⟩ := hP
  have hx := Bd.exec
  have hlk : meth.locks = false := BodyLoose.notSynchronized Bd
  have hby := Bd.bytes
  have hml : c.maxLocals = 2 := hml0
  have hown : s.vm.findClass "java/util/Objects" = some m.cls := findClass_of_methodNamed Bd.named
  have hnm := (name_of_methodNamed Bd.named Bd.method).1
  have X0 : Stand p l e ({ frames := 1, cells := 0, slots := 0, locals := 14 } : Room) s m #[(.int p1), (.int p2)] below meth c s₁ [] 0 0 := Stand.of_body Bd
  have e0 : s₁.heap = h0 := by rw [← hh, Bd.state]; rfl
  have N0 := Fr.nil n0
  have K0 : ∀ t, Steps p.tables e below (s₁.setTop (mkF m 0 #[.val (.int p1), .val (.int p2)] [])) t → Steps p.tables e below (s₁.setTop (entryFrame m #[(.int p1), (.int p2)] 2)) t := fun t k => castTop (ef_rmOC m p1 p2) k
  have KK0 : Keep h0 h0 [] := Keep.refl _ _
  
  have K101 : ∀ t, Steps p.tables e below (s₁.setTop (mkF m 3 #[.val (.int p1), .val (.int p2)] [.null, (.int p2), (.int p1)])) t → Steps p.tables e below (s₁.setTop (entryFrame m #[(.int p1), (.int p2)] 2)) t := by
    intro t kt
    refine K0 t ?_
    show Steps p.tables e below (s₁.setTop (mkF m 0 #[.val (.int p1), .val (.int p2)] [])) _
    refine XS.iloadN X0.here hx rfl (hb hby d21_0) rfl ?_
    show Steps p.tables e below (s₁.setTop (mkF m 1 #[.val (.int p1), .val (.int p2)] [(.int p1)])) _
    refine XS.iloadN X0.here hx rfl (hb hby d21_1) rfl ?_
    show Steps p.tables e below (s₁.setTop (mkF m 2 #[.val (.int p1), .val (.int p2)] [(.int p2), (.int p1)])) _
    refine XS.aconstNull X0.here hx rfl (hb hby d21_2) ?_
    exact kt
  obtain ⟨_, _, ⟨T102, L102, k102, n102⟩, -, X102, ⟨Lc102, hQ102, l102, y102, z102⟩, st102⟩ := Jvm.LawKit.callS X0 hx (y := (⟨"jdk/internal/util/Preconditions", "checkIndex", "(IILjava/util/function/BiFunction;)I"⟩ : MethodName)) hown (mvT hZ (hw _ (List.mem_of_getElem? (i := 143) rfl))) (mvT hZ (hw _ (List.mem_of_getElem? (i := 144) rfl))) (mvT hZ (hw _ (List.mem_of_getElem? (i := 145) rfl))) (mvT hZ (hw _ (List.mem_of_getElem? (i := 146) rfl))) (by decide) (backOf (W := 0) (rmPC l Z a0 hw [] p1 p2 h0 n0 Z0 h1 h2) hZ (hw _ (List.mem_of_getElem? (i := 146) rfl)) (hw _ (List.mem_of_getElem? (i := 145) rfl)) (by decide) (by decide)) (g := (mkF m 3 #[.val (.int p1), .val (.int p2)] [.null, (.int p2), (.int p1)])) rfl (by rw [hml]; rfl) (argsL := [(.int p1), (.int p2), .null]) (rest := []) (lenOf pd_9 rfl) rfl (by show 2 * 0 + _ ≤ _; exact Nat.le_of_eq rfl) (hb hby d21_3) (fun _ _ => ⟨rfl, e0, (by decide : 0 + 0 ≤ _), (by decide : 0 + 0 ≤ _)⟩)
  dsimp only [Pt.U, Pt.locs, Pt.cells, Pt.slots] at X102 l102 y102 z102 st102 hQ102
  subst l102 y102 z102
  obtain ⟨rfl, Nq102, e102⟩ := hQ102
  have N102 := Fr.app N0 Nq102
  have K103 : ∀ t, Steps p.tables e below (T102.setTop (mkF m 6 #[.val (.int p1), .val (.int p2)] [(.int p1)])) t → Steps p.tables e below (s₁.setTop (entryFrame m #[(.int p1), (.int p2)] 2)) t := fun t kt => K101 t (st102 t kt)
  obtain ⟨fs, hr, hrun, hended, hW, hsame⟩ := X102.leave (v := some (.int p1)) (fun h => by rw [Bd.returns] at h; cases h) (hlocks := hlk)
  refine ⟨_, _, K103 _ ?_, hrun, hended, _, _, rfl, ?_, ⟨_, rfl⟩, hW, hsame.mono (by decide) (by decide)⟩
  · exact retI X102 hx Bd.returns (hb hby d21_6) hr
  · show QrmOC p1 h0 n0 _ T102.heap _
    rw [e102]
    exact ⟨rfl, N102, rfl⟩
theorem ef_rmED0 (m : MethodId) (x0 : Addr) (x1 : Int32) : entryFrame m #[(.ref x0), (.int x1)] 2 = mkF m 0 #[.val (.ref x0), .val (.int x1)] [] := by first | (simp [entryFrame, mkF, argsToLocals, Value.category]; done) | rfl
def QrmED0 (e : Addr) (h0 : Heap) (n0 : Nat) (v : Option Value) (h : Heap) (L : List Loc) : Prop := v = some (.ref e) ∧ Fr n0 L ∧ h = h0
set_option maxRecDepth 65536 in
set_option maxHeartbeats 40000000 in
theorem rmED0 (l : Launch) (Z : State) (a0 : Array Value) (hw : ∀ d ∈ tables_1, d.before a0 Z = true) (ws : List Jvm.Cond) (a1 tq : Addr) (kk : ClassId) (el0 el1 el2 : Addr) (h0 : Heap) (n0 : Nat) (Z0 : n0 ≤ h0.size) (E1 : Exa Z h0 a1 "java/util/ArrayList") (F2 : Fld Z h0 a1 "java/util/ArrayList" "elementData" "[Ljava/lang/Object;" (.ref tq)) (F3 : Fld Z h0 a1 "java/util/ArrayList" "size" "I" (.int (3 : Int32))) (V1 : Arv Z h0 tq kk (.object "java/lang/Object") (3 : Int32) [(.ref el0), (.ref el1), (.ref el2)] .null) :
    MetFree l (⟨"java/util/ArrayList", "elementData", "(I)Ljava/lang/Object;"⟩ : MethodName) (head1 (Jvm.Cond.code (⟨"java/util/ArrayList", "elementData", "(I)Ljava/lang/Object;"⟩ : MethodName) jdk_38_method_18_code 2 (some (.object "java/lang/Object")) :: ws) ({ frames := 0, cells := 0, slots := 0, locals := 0 } : Room)) (fun a U => a = #[(.ref a1), (.int (0 : Int32))] ∧ Z.Warmed39 U.vm ∧ U.heap = h0) (fun _ _ _ _ _ => True) (fun _ U o U' => ∃ v L, o = .returned v ∧ QrmED0 el0 h0 n0 v U'.heap L ∧ FrameEnd U o U' L ({ frames := 0, cells := 0, slots := 0, locals := 0 } : Room).cells ({ frames := 0, cells := 0, slots := 0, locals := 0 } : Room).slots) := by
  refine MetFree.of_bodySF (plainFor_of_name pn_5) hisR ?_
  intro p e s m args below meth c s₁ Bd hml0 hP hK
  obtain ⟨rfl, hZ, hh⟩ := hP
  have hx := Bd.exec
  have hlk : meth.locks = false := BodyLoose.notSynchronized Bd
  have hby := Bd.bytes
  have hml : c.maxLocals = 2 := hml0
  have hown : s.vm.findClass "java/util/ArrayList" = some m.cls := findClass_of_methodNamed Bd.named
  have hnm := (name_of_methodNamed Bd.named Bd.method).1
  have X0 : Stand p l e ({ frames := 0, cells := 0, slots := 0, locals := 0 } : Room) s m #[(.ref a1), (.int (0 : Int32))] below meth c s₁ [] 0 0 := Stand.of_body Bd
  have e0 : s₁.heap = h0 := by rw [← hh, Bd.state]; rfl
  have N0 := Fr.nil n0
  have K0 : ∀ t, Steps p.tables e below (s₁.setTop (mkF m 0 #[.val (.ref a1), .val (.int (0 : Int32))] [])) t → Steps p.tables e below (s₁.setTop (entryFrame m #[(.ref a1), (.int (0 : Int32))] 2)) t := fun t k => castTop (ef_rmED0 m a1 (0 : Int32)) k
  have KK0 : Keep h0 h0 [] := Keep.refl _ _
  
  have K101 : ∀ t, Steps p.tables e below (s₁.setTop (mkF m 1 #[.val (.ref a1), .val (.int (0 : Int32))] [(.ref a1)])) t → Steps p.tables e below (s₁.setTop (entryFrame m #[(.ref a1), (.int (0 : Int32))] 2)) t := by
    intro t kt
    refine K0 t ?_
    show Steps p.tables e below (s₁.setTop (mkF m 0 #[.val (.ref a1), .val (.int (0 : Int32))] [])) _
    refine XS.aloadN X0.here hx rfl (hb hby d23_0) rfl rfl ?_
    exact kt
  obtain ⟨T102, X102, e102, st102⟩ := getF X0 hx hZ hown (host := "") (Or.inl (hw _ (List.mem_of_getElem? (i := 64) rfl))) Via.refl e0 F2 (g := (mkF m 1 #[.val (.ref a1), .val (.int (0 : Int32))] [(.ref a1)])) rfl rfl (hb hby d23_1)
  have K103 : ∀ t, Steps p.tables e below (T102.setTop (mkF m 4 #[.val (.ref a1), .val (.int (0 : Int32))] [(.ref tq)])) t → Steps p.tables e below (s₁.setTop (entryFrame m #[(.ref a1), (.int (0 : Int32))] 2)) t := fun t kt => K101 t (st102 t kt)
  have K104 : ∀ t, Steps p.tables e below (T102.setTop (mkF m 5 #[.val (.ref a1), .val (.int (0 : Int32))] [(.int (0 : Int32)), (.ref tq)])) t → Steps p.tables e below (s₁.setTop (entryFrame m #[(.ref a1), (.int (0 : Int32))] 2)) t := by
    intro t kt
    refine K103 t ?_
    show Steps p.tables e below (T102.setTop (mkF m 4 #[.val (.ref a1), .val (.int (0 : Int32))] [(.ref tq)])) _
    refine XS.iloadN X102.here hx rfl (hb hby d23_4) rfl ?_
    exact kt
  obtain ⟨cl105, Ar105, q105, S105, M105, H105, G105⟩ := id V1
  have hin105 : ¬ ((0 : Int32) < 0 ∨ cl105.slots.size ≤ ((0 : Int32)).toNatClampNeg) := inb_of S105 ⟨by decide, by decide⟩
  have hat105 : cl105.slots[((0 : Int32)).toNatClampNeg]? = some (.ref el0) := H105 0 (by rw [S105]; decide)
  have K106 : ∀ t, Steps p.tables e below (T102.setTop (mkF m 6 #[.val (.ref a1), .val (.int (0 : Int32))] [(.ref el0)])) t → Steps p.tables e below (s₁.setTop (entryFrame m #[(.ref a1), (.int (0 : Int32))] 2)) t := by
    intro t kt
    refine K104 t ?_
    show Steps p.tables e below (T102.setTop (mkF m 5 #[.val (.ref a1), .val (.int (0 : Int32))] [(.int (0 : Int32)), (.ref tq)])) _
    refine X102.aaload hx (j := (0 : Int32)) (v := (.ref el0)) (by rw [e102]; exact Ar105.1) (State.isArrayOf_alike hZ.alike Ar105.2.1) rfl Ar105.2.2 hin105 hat105 (g := (mkF m 5 #[.val (.ref a1), .val (.int (0 : Int32))] [(.int (0 : Int32)), (.ref tq)])) rfl rfl (hb hby d23_5) _ ?_
    exact kt
  obtain ⟨fs, hr, hrun, hended, hW, hsame⟩ := X102.leave (v := some (.ref el0)) (fun h => by rw [Bd.returns] at h; cases h) (hlocks := hlk)
  refine ⟨_, _, K106 _ ?_, hrun, hended, _, _, rfl, ?_, ⟨_, rfl⟩, hW, hsame.mono (by decide) (by decide)⟩
  · exact retOut X102 hx Bd.returns rfl (Or.inr (Or.inr (Or.inr (Or.inr ⟨rfl, rfl, rfl⟩)))) (hb hby d23_6) hr
  · show QrmED0 el0 h0 n0 _ T102.heap _
    rw [e102]
    exact ⟨rfl, N0, rfl⟩
theorem ef_rmGT0 (m : MethodId) (x0 : Addr) (x1 : Int32) : entryFrame m #[(.ref x0), (.int x1)] 2 = mkF m 0 #[.val (.ref x0), .val (.int x1)] [] := by first | (simp [entryFrame, mkF, argsToLocals, Value.category]; done) | rfl
def QrmGT0 (e : Addr) (h0 : Heap) (n0 : Nat) (v : Option Value) (h : Heap) (L : List Loc) : Prop := v = some (.ref e) ∧ Fr n0 L ∧ h = h0
set_option maxRecDepth 65536 in
set_option maxHeartbeats 40000000 in
theorem rmGT0 (l : Launch) (Z : State) (a0 : Array Value) (hw : ∀ d ∈ tables_1, d.before a0 Z = true) (ws : List Jvm.Cond) (a1 tq : Addr) (kk : ClassId) (el0 el1 el2 : Addr) (h0 : Heap) (n0 : Nat) (Z0 : n0 ≤ h0.size) (E1 : Exa Z h0 a1 "java/util/ArrayList") (F2 : Fld Z h0 a1 "java/util/ArrayList" "elementData" "[Ljava/lang/Object;" (.ref tq)) (F3 : Fld Z h0 a1 "java/util/ArrayList" "size" "I" (.int (3 : Int32))) (V1 : Arv Z h0 tq kk (.object "java/lang/Object") (3 : Int32) [(.ref el0), (.ref el1), (.ref el2)] .null) :
    MetFree l (⟨"java/util/ArrayList", "get", "(I)Ljava/lang/Object;"⟩ : MethodName) (head1 (Jvm.Cond.code (⟨"java/util/ArrayList", "get", "(I)Ljava/lang/Object;"⟩ : MethodName) jdk_38_method_20_code 2 (some (.object "java/lang/Object")) :: ws) ({ frames := 2, cells := 0, slots := 0, locals := 27 } : Room)) (fun a U => a = #[(.ref a1), (.int (0 : Int32))] ∧ Z.Warmed39 U.vm ∧ U.heap = h0) (fun _ _ _ _ _ => True) (fun _ U o U' => ∃ v L, o = .returned v ∧ QrmGT0 el0 h0 n0 v U'.heap L ∧ FrameEnd U o U' L ({ frames := 2, cells := 0, slots := 0, locals := 27 } : Room).cells ({ frames := 2, cells := 0, slots := 0, locals := 27 } : Room).slots) := by
  refine MetFree.of_bodySF (plainFor_of_name pn_5) hisR ?_
  intro p e s m args below meth c s₁ Bd hml0 hP hK
  obtain ⟨rfl, hZ, hh⟩ := hP
  have hx := Bd.exec
  have hlk : meth.locks = false := BodyLoose.notSynchronized Bd
  have hby := Bd.bytes
  have hml : c.maxLocals = 2 := hml0
  have hown : s.vm.findClass "java/util/ArrayList" = some m.cls := findClass_of_methodNamed Bd.named
  have hnm := (name_of_methodNamed Bd.named Bd.method).1
  have X0 : Stand p l e ({ frames := 2, cells := 0, slots := 0, locals := 27 } : Room) s m #[(.ref a1), (.int (0 : Int32))] below meth c s₁ [] 0 0 := Stand.of_body Bd
  have e0 : s₁.heap = h0 := by rw [← hh, Bd.state]; rfl
  have N0 := Fr.nil n0
  have K0 : ∀ t, Steps p.tables e below (s₁.setTop (mkF m 0 #[.val (.ref a1), .val (.int (0 : Int32))] [])) t → Steps p.tables e below (s₁.setTop (entryFrame m #[(.ref a1), (.int (0 : Int32))] 2)) t := fun t k => castTop (ef_rmGT0 m a1 (0 : Int32)) k
  have KK0 : Keep h0 h0 [] := Keep.refl _ _
  
  have K101 : ∀ t, Steps p.tables e below (s₁.setTop (mkF m 2 #[.val (.ref a1), .val (.int (0 : Int32))] [(.ref a1), (.int (0 : Int32))])) t → Steps p.tables e below (s₁.setTop (entryFrame m #[(.ref a1), (.int (0 : Int32))] 2)) t := by
    intro t kt
    refine K0 t ?_
    show Steps p.tables e below (s₁.setTop (mkF m 0 #[.val (.ref a1), .val (.int (0 : Int32))] [])) _
    refine XS.iloadN X0.here hx rfl (hb hby d20_0) rfl ?_
    show Steps p.tables e below (s₁.setTop (mkF m 1 #[.val (.ref a1), .val (.int (0 : Int32))] [(.int (0 : Int32))])) _
    refine XS.aloadN X0.here hx rfl (hb hby d20_1) rfl rfl ?_
    exact kt
  obtain ⟨T102, X102, e102, st102⟩ := getF X0 hx hZ hown (host := "") (Or.inl (hw _ (List.mem_of_getElem? (i := 108) rfl))) Via.refl e0 F3 (g := (mkF m 2 #[.val (.ref a1), .val (.int (0 : Int32))] [(.ref a1), (.int (0 : Int32))])) rfl rfl (hb hby d20_2)
  have K103 : ∀ t, Steps p.tables e below (T102.setTop (mkF m 5 #[.val (.ref a1), .val (.int (0 : Int32))] [(.int (3 : Int32)), (.int (0 : Int32))])) t → Steps p.tables e below (s₁.setTop (entryFrame m #[(.ref a1), (.int (0 : Int32))] 2)) t := fun t kt => K101 t (st102 t kt)
  obtain ⟨_, _, ⟨T104, L104, k104, n104⟩, -, X104, ⟨Lc104, hQ104, l104, y104, z104⟩, st104⟩ := Jvm.LawKit.callS X102 hx (y := (⟨"java/util/Objects", "checkIndex", "(II)I"⟩ : MethodName)) hown (mvT hZ (hw _ (List.mem_of_getElem? (i := 139) rfl))) (mvT hZ (hw _ (List.mem_of_getElem? (i := 140) rfl))) (mvT hZ (hw _ (List.mem_of_getElem? (i := 141) rfl))) (mvT hZ (hw _ (List.mem_of_getElem? (i := 142) rfl))) (by decide) (backOf (W := 0) (rmOC l Z a0 hw [] (0 : Int32) (3 : Int32) h0 n0 Z0 (by decide) (by decide)) hZ (hw _ (List.mem_of_getElem? (i := 142) rfl)) (hw _ (List.mem_of_getElem? (i := 141) rfl)) (by decide) (by decide)) (g := (mkF m 5 #[.val (.ref a1), .val (.int (0 : Int32))] [(.int (3 : Int32)), (.int (0 : Int32))])) rfl (by rw [hml]; rfl) (argsL := [(.int (0 : Int32)), (.int (3 : Int32))]) (rest := []) (lenOf pd_10 rfl) rfl (by show 2 * 0 + _ ≤ _; exact Nat.le_of_eq rfl) (hb hby d20_5) (fun _ _ => ⟨rfl, e102, (by decide : 0 + 0 ≤ _), (by decide : 0 + 0 ≤ _)⟩)
  dsimp only [Pt.U, Pt.locs, Pt.cells, Pt.slots] at X104 l104 y104 z104 st104 hQ104
  subst l104 y104 z104
  obtain ⟨rfl, Nq104, e104⟩ := hQ104
  have N104 := Fr.app N0 Nq104
  have K105 : ∀ t, Steps p.tables e below (T104.setTop (mkF m 8 #[.val (.ref a1), .val (.int (0 : Int32))] [(.int (0 : Int32))])) t → Steps p.tables e below (s₁.setTop (entryFrame m #[(.ref a1), (.int (0 : Int32))] 2)) t := fun t kt => K103 t (st104 t kt)
  have K106 : ∀ t, Steps p.tables e below (T104.setTop (mkF m 11 #[.val (.ref a1), .val (.int (0 : Int32))] [(.int (0 : Int32)), (.ref a1)])) t → Steps p.tables e below (s₁.setTop (entryFrame m #[(.ref a1), (.int (0 : Int32))] 2)) t := by
    intro t kt
    refine K105 t ?_
    show Steps p.tables e below (T104.setTop (mkF m 8 #[.val (.ref a1), .val (.int (0 : Int32))] [(.int (0 : Int32))])) _
    refine XS.pop X104.here hx rfl (hb hby d20_8) rfl rfl ?_
    show Steps p.tables e below (T104.setTop (mkF m 9 #[.val (.ref a1), .val (.int (0 : Int32))] [])) _
    refine XS.aloadN X104.here hx rfl (hb hby d20_9) rfl rfl ?_
    show Steps p.tables e below (T104.setTop (mkF m 10 #[.val (.ref a1), .val (.int (0 : Int32))] [(.ref a1)])) _
    refine XS.iloadN X104.here hx rfl (hb hby d20_10) rfl ?_
    exact kt
  obtain ⟨cq107, kq107, q107a, q107b, q107c⟩ := isOf hZ e104 E1
  obtain ⟨_, _, ⟨T107, L107, k107, n107⟩, -, X107, ⟨Lc107, hQ107, l107, y107, z107⟩, st107⟩ := X104.virtualBack hx (y := (⟨"java/util/ArrayList", "elementData", "(I)Ljava/lang/Object;"⟩ : MethodName)) (z := (⟨"java/util/ArrayList", "elementData", "(I)Ljava/lang/Object;"⟩ : MethodName)) hown (mvT hZ (hw _ (List.mem_of_getElem? (i := 147) rfl))) (mvT hZ (hw _ (List.mem_of_getElem? (i := 148) rfl))) (notFace_of_selects (args := #[]) (mvT hZ (hw _ (List.mem_of_getElem? (i := 150) rfl)))) (mvT hZ (hw _ (List.mem_of_getElem? (i := 150) rfl))) (mvT hZ (hw _ (List.mem_of_getElem? (i := 149) rfl))) (by decide) (backOf (W := 0) (rmED0 l Z a0 hw [] a1 tq kk el0 el1 el2 h0 n0 Z0 E1 F2 F3 V1) hZ (hw _ (List.mem_of_getElem? (i := 151) rfl)) (hw _ (List.mem_of_getElem? (i := 43) rfl)) (by decide) (by decide)) q107a q107c (g := (mkF m 11 #[.val (.ref a1), .val (.int (0 : Int32))] [(.int (0 : Int32)), (.ref a1)])) rfl (by rw [hml]; rfl) (Steps.refl _) (argsL := [(.int (0 : Int32))]) (rest := []) (lenOf pd_11 rfl) rfl (by show 2 * 0 + _ ≤ _; exact Nat.le_of_eq rfl) (hb hby d20_11) (fun _ _ => ⟨rfl, e104, (by decide : 0 + 0 ≤ _), (by decide : 0 + 0 ≤ _)⟩)
  dsimp only [Pt.U, Pt.locs, Pt.cells, Pt.slots] at X107 l107 y107 z107 st107 hQ107
  subst l107 y107 z107
  obtain ⟨rfl, Nq107, e107⟩ := hQ107
  have N107 := Fr.app N104 Nq107
  have K108 : ∀ t, Steps p.tables e below (T107.setTop (mkF m 14 #[.val (.ref a1), .val (.int (0 : Int32))] [(.ref el0)])) t → Steps p.tables e below (s₁.setTop (entryFrame m #[(.ref a1), (.int (0 : Int32))] 2)) t := fun t kt => K106 t (st107.trans kt)
  obtain ⟨fs, hr, hrun, hended, hW, hsame⟩ := X107.leave (v := some (.ref el0)) (fun h => by rw [Bd.returns] at h; cases h) (hlocks := hlk)
  refine ⟨_, _, K108 _ ?_, hrun, hended, _, _, rfl, ?_, ⟨_, rfl⟩, hW, hsame.mono (by decide) (by decide)⟩
  · exact retOut X107 hx Bd.returns rfl (Or.inr (Or.inr (Or.inr (Or.inr ⟨rfl, rfl, rfl⟩)))) (hb hby d20_14) hr
  · show QrmGT0 el0 h0 n0 _ T107.heap _
    rw [e107]
    exact ⟨rfl, N107, rfl⟩
theorem ef_rmED1 (m : MethodId) (x0 : Addr) (x1 : Int32) : entryFrame m #[(.ref x0), (.int x1)] 2 = mkF m 0 #[.val (.ref x0), .val (.int x1)] [] := by first | (simp [entryFrame, mkF, argsToLocals, Value.category]; done) | rfl
def QrmED1 (e : Addr) (h0 : Heap) (n0 : Nat) (v : Option Value) (h : Heap) (L : List Loc) : Prop := v = some (.ref e) ∧ Fr n0 L ∧ h = h0
set_option maxRecDepth 65536 in
set_option maxHeartbeats 40000000 in
theorem rmED1 (l : Launch) (Z : State) (a0 : Array Value) (hw : ∀ d ∈ tables_1, d.before a0 Z = true) (ws : List Jvm.Cond) (a1 tq : Addr) (kk : ClassId) (el0 el1 el2 : Addr) (h0 : Heap) (n0 : Nat) (Z0 : n0 ≤ h0.size) (E1 : Exa Z h0 a1 "java/util/ArrayList") (F2 : Fld Z h0 a1 "java/util/ArrayList" "elementData" "[Ljava/lang/Object;" (.ref tq)) (F3 : Fld Z h0 a1 "java/util/ArrayList" "size" "I" (.int (3 : Int32))) (V1 : Arv Z h0 tq kk (.object "java/lang/Object") (3 : Int32) [(.ref el0), (.ref el1), (.ref el2)] .null) :
    MetFree l (⟨"java/util/ArrayList", "elementData", "(I)Ljava/lang/Object;"⟩ : MethodName) (head1 (Jvm.Cond.code (⟨"java/util/ArrayList", "elementData", "(I)Ljava/lang/Object;"⟩ : MethodName) jdk_38_method_18_code 2 (some (.object "java/lang/Object")) :: ws) ({ frames := 0, cells := 0, slots := 0, locals := 0 } : Room)) (fun a U => a = #[(.ref a1), (.int (1 : Int32))] ∧ Z.Warmed39 U.vm ∧ U.heap = h0) (fun _ _ _ _ _ => True) (fun _ U o U' => ∃ v L, o = .returned v ∧ QrmED1 el1 h0 n0 v U'.heap L ∧ FrameEnd U o U' L ({ frames := 0, cells := 0, slots := 0, locals := 0 } : Room).cells ({ frames := 0, cells := 0, slots := 0, locals := 0 } : Room).slots) := by
  refine MetFree.of_bodySF (plainFor_of_name pn_5) hisR ?_
  intro p e s m args below meth c s₁ Bd hml0 hP hK
  obtain ⟨rfl, hZ, hh⟩ := hP
  have hx := Bd.exec
  have hlk : meth.locks = false := BodyLoose.notSynchronized Bd
  have hby := Bd.bytes
  have hml : c.maxLocals = 2 := hml0
  have hown : s.vm.findClass "java/util/ArrayList" = some m.cls := findClass_of_methodNamed Bd.named
  have hnm := (name_of_methodNamed Bd.named Bd.method).1
  have X0 : Stand p l e ({ frames := 0, cells := 0, slots := 0, locals := 0 } : Room) s m #[(.ref a1), (.int (1 : Int32))] below meth c s₁ [] 0 0 := Stand.of_body Bd
  have e0 : s₁.heap = h0 := by rw [← hh, Bd.state]; rfl
  have N0 := Fr.nil n0
  have K0 : ∀ t, Steps p.tables e below (s₁.setTop (mkF m 0 #[.val (.ref a1), .val (.int (1 : Int32))] [])) t → Steps p.tables e below (s₁.setTop (entryFrame m #[(.ref a1), (.int (1 : Int32))] 2)) t := fun t k => castTop (ef_rmED1 m a1 (1 : Int32)) k
  have KK0 : Keep h0 h0 [] := Keep.refl _ _
  
  have K101 : ∀ t, Steps p.tables e below (s₁.setTop (mkF m 1 #[.val (.ref a1), .val (.int (1 : Int32))] [(.ref a1)])) t → Steps p.tables e below (s₁.setTop (entryFrame m #[(.ref a1), (.int (1 : Int32))] 2)) t := by
    intro t kt
    refine K0 t ?_
    show Steps p.tables e below (s₁.setTop (mkF m 0 #[.val (.ref a1), .val (.int (1 : Int32))] [])) _
    refine XS.aloadN X0.here hx rfl (hb hby d23_0) rfl rfl ?_
    exact kt
  obtain ⟨T102, X102, e102, st102⟩ := getF X0 hx hZ hown (host := "") (Or.inl (hw _ (List.mem_of_getElem? (i := 64) rfl))) Via.refl e0 F2 (g := (mkF m 1 #[.val (.ref a1), .val (.int (1 : Int32))] [(.ref a1)])) rfl rfl (hb hby d23_1)
  have K103 : ∀ t, Steps p.tables e below (T102.setTop (mkF m 4 #[.val (.ref a1), .val (.int (1 : Int32))] [(.ref tq)])) t → Steps p.tables e below (s₁.setTop (entryFrame m #[(.ref a1), (.int (1 : Int32))] 2)) t := fun t kt => K101 t (st102 t kt)
  have K104 : ∀ t, Steps p.tables e below (T102.setTop (mkF m 5 #[.val (.ref a1), .val (.int (1 : Int32))] [(.int (1 : Int32)), (.ref tq)])) t → Steps p.tables e below (s₁.setTop (entryFrame m #[(.ref a1), (.int (1 : Int32))] 2)) t := by
    intro t kt
    refine K103 t ?_
    show Steps p.tables e below (T102.setTop (mkF m 4 #[.val (.ref a1), .val (.int (1 : Int32))] [(.ref tq)])) _
    refine XS.iloadN X102.here hx rfl (hb hby d23_4) rfl ?_
    exact kt
  obtain ⟨cl105, Ar105, q105, S105, M105, H105, G105⟩ := id V1
  have hin105 : ¬ ((1 : Int32) < 0 ∨ cl105.slots.size ≤ ((1 : Int32)).toNatClampNeg) := inb_of S105 ⟨by decide, by decide⟩
  have hat105 : cl105.slots[((1 : Int32)).toNatClampNeg]? = some (.ref el1) := H105 1 (by rw [S105]; decide)
  have K106 : ∀ t, Steps p.tables e below (T102.setTop (mkF m 6 #[.val (.ref a1), .val (.int (1 : Int32))] [(.ref el1)])) t → Steps p.tables e below (s₁.setTop (entryFrame m #[(.ref a1), (.int (1 : Int32))] 2)) t := by
    intro t kt
    refine K104 t ?_
    show Steps p.tables e below (T102.setTop (mkF m 5 #[.val (.ref a1), .val (.int (1 : Int32))] [(.int (1 : Int32)), (.ref tq)])) _
    refine X102.aaload hx (j := (1 : Int32)) (v := (.ref el1)) (by rw [e102]; exact Ar105.1) (State.isArrayOf_alike hZ.alike Ar105.2.1) rfl Ar105.2.2 hin105 hat105 (g := (mkF m 5 #[.val (.ref a1), .val (.int (1 : Int32))] [(.int (1 : Int32)), (.ref tq)])) rfl rfl (hb hby d23_5) _ ?_
    exact kt
  obtain ⟨fs, hr, hrun, hended, hW, hsame⟩ := X102.leave (v := some (.ref el1)) (fun h => by rw [Bd.returns] at h; cases h) (hlocks := hlk)
  refine ⟨_, _, K106 _ ?_, hrun, hended, _, _, rfl, ?_, ⟨_, rfl⟩, hW, hsame.mono (by decide) (by decide)⟩
  · exact retOut X102 hx Bd.returns rfl (Or.inr (Or.inr (Or.inr (Or.inr ⟨rfl, rfl, rfl⟩)))) (hb hby d23_6) hr
  · show QrmED1 el1 h0 n0 _ T102.heap _
    rw [e102]
    exact ⟨rfl, N0, rfl⟩
theorem ef_rmGT1 (m : MethodId) (x0 : Addr) (x1 : Int32) : entryFrame m #[(.ref x0), (.int x1)] 2 = mkF m 0 #[.val (.ref x0), .val (.int x1)] [] := by first | (simp [entryFrame, mkF, argsToLocals, Value.category]; done) | rfl
def QrmGT1 (e : Addr) (h0 : Heap) (n0 : Nat) (v : Option Value) (h : Heap) (L : List Loc) : Prop := v = some (.ref e) ∧ Fr n0 L ∧ h = h0
set_option maxRecDepth 65536 in
set_option maxHeartbeats 40000000 in
theorem rmGT1 (l : Launch) (Z : State) (a0 : Array Value) (hw : ∀ d ∈ tables_1, d.before a0 Z = true) (ws : List Jvm.Cond) (a1 tq : Addr) (kk : ClassId) (el0 el1 el2 : Addr) (h0 : Heap) (n0 : Nat) (Z0 : n0 ≤ h0.size) (E1 : Exa Z h0 a1 "java/util/ArrayList") (F2 : Fld Z h0 a1 "java/util/ArrayList" "elementData" "[Ljava/lang/Object;" (.ref tq)) (F3 : Fld Z h0 a1 "java/util/ArrayList" "size" "I" (.int (3 : Int32))) (V1 : Arv Z h0 tq kk (.object "java/lang/Object") (3 : Int32) [(.ref el0), (.ref el1), (.ref el2)] .null) :
    MetFree l (⟨"java/util/ArrayList", "get", "(I)Ljava/lang/Object;"⟩ : MethodName) (head1 (Jvm.Cond.code (⟨"java/util/ArrayList", "get", "(I)Ljava/lang/Object;"⟩ : MethodName) jdk_38_method_20_code 2 (some (.object "java/lang/Object")) :: ws) ({ frames := 2, cells := 0, slots := 0, locals := 27 } : Room)) (fun a U => a = #[(.ref a1), (.int (1 : Int32))] ∧ Z.Warmed39 U.vm ∧ U.heap = h0) (fun _ _ _ _ _ => True) (fun _ U o U' => ∃ v L, o = .returned v ∧ QrmGT1 el1 h0 n0 v U'.heap L ∧ FrameEnd U o U' L ({ frames := 2, cells := 0, slots := 0, locals := 27 } : Room).cells ({ frames := 2, cells := 0, slots := 0, locals := 27 } : Room).slots) := by
  refine MetFree.of_bodySF (plainFor_of_name pn_5) hisR ?_
  intro p e s m args below meth c s₁ Bd hml0 hP hK
  obtain ⟨rfl, hZ, hh⟩ := hP
  have hx := Bd.exec
  have hlk : meth.locks = false := BodyLoose.notSynchronized Bd
  have hby := Bd.bytes
  have hml : c.maxLocals = 2 := hml0
  have hown : s.vm.findClass "java/util/ArrayList" = some m.cls := findClass_of_methodNamed Bd.named
  have hnm := (name_of_methodNamed Bd.named Bd.method).1
  have X0 : Stand p l e ({ frames := 2, cells := 0, slots := 0, locals := 27 } : Room) s m #[(.ref a1), (.int (1 : Int32))] below meth c s₁ [] 0 0 := Stand.of_body Bd
  have e0 : s₁.heap = h0 := by rw [← hh, Bd.state]; rfl
  have N0 := Fr.nil n0
  have K0 : ∀ t, Steps p.tables e below (s₁.setTop (mkF m 0 #[.val (.ref a1), .val (.int (1 : Int32))] [])) t → Steps p.tables e below (s₁.setTop (entryFrame m #[(.ref a1), (.int (1 : Int32))] 2)) t := fun t k => castTop (ef_rmGT1 m a1 (1 : Int32)) k
  have KK0 : Keep h0 h0 [] := Keep.refl _ _
  
  have K101 : ∀ t, Steps p.tables e below (s₁.setTop (mkF m 2 #[.val (.ref a1), .val (.int (1 : Int32))] [(.ref a1), (.int (1 : Int32))])) t → Steps p.tables e below (s₁.setTop (entryFrame m #[(.ref a1), (.int (1 : Int32))] 2)) t := by
    intro t kt
    refine K0 t ?_
    show Steps p.tables e below (s₁.setTop (mkF m 0 #[.val (.ref a1), .val (.int (1 : Int32))] [])) _
    refine XS.iloadN X0.here hx rfl (hb hby d20_0) rfl ?_
    show Steps p.tables e below (s₁.setTop (mkF m 1 #[.val (.ref a1), .val (.int (1 : Int32))] [(.int (1 : Int32))])) _
    refine XS.aloadN X0.here hx rfl (hb hby d20_1) rfl rfl ?_
    exact kt
  obtain ⟨T102, X102, e102, st102⟩ := getF X0 hx hZ hown (host := "") (Or.inl (hw _ (List.mem_of_getElem? (i := 108) rfl))) Via.refl e0 F3 (g := (mkF m 2 #[.val (.ref a1), .val (.int (1 : Int32))] [(.ref a1), (.int (1 : Int32))])) rfl rfl (hb hby d20_2)
  have K103 : ∀ t, Steps p.tables e below (T102.setTop (mkF m 5 #[.val (.ref a1), .val (.int (1 : Int32))] [(.int (3 : Int32)), (.int (1 : Int32))])) t → Steps p.tables e below (s₁.setTop (entryFrame m #[(.ref a1), (.int (1 : Int32))] 2)) t := fun t kt => K101 t (st102 t kt)
  obtain ⟨_, _, ⟨T104, L104, k104, n104⟩, -, X104, ⟨Lc104, hQ104, l104, y104, z104⟩, st104⟩ := Jvm.LawKit.callS X102 hx (y := (⟨"java/util/Objects", "checkIndex", "(II)I"⟩ : MethodName)) hown (mvT hZ (hw _ (List.mem_of_getElem? (i := 139) rfl))) (mvT hZ (hw _ (List.mem_of_getElem? (i := 140) rfl))) (mvT hZ (hw _ (List.mem_of_getElem? (i := 141) rfl))) (mvT hZ (hw _ (List.mem_of_getElem? (i := 142) rfl))) (by decide) (backOf (W := 0) (rmOC l Z a0 hw [] (1 : Int32) (3 : Int32) h0 n0 Z0 (by decide) (by decide)) hZ (hw _ (List.mem_of_getElem? (i := 142) rfl)) (hw _ (List.mem_of_getElem? (i := 141) rfl)) (by decide) (by decide)) (g := (mkF m 5 #[.val (.ref a1), .val (.int (1 : Int32))] [(.int (3 : Int32)), (.int (1 : Int32))])) rfl (by rw [hml]; rfl) (argsL := [(.int (1 : Int32)), (.int (3 : Int32))]) (rest := []) (lenOf pd_10 rfl) rfl (by show 2 * 0 + _ ≤ _; exact Nat.le_of_eq rfl) (hb hby d20_5) (fun _ _ => ⟨rfl, e102, (by decide : 0 + 0 ≤ _), (by decide : 0 + 0 ≤ _)⟩)
  dsimp only [Pt.U, Pt.locs, Pt.cells, Pt.slots] at X104 l104 y104 z104 st104 hQ104
  subst l104 y104 z104
  obtain ⟨rfl, Nq104, e104⟩ := hQ104
  have N104 := Fr.app N0 Nq104
  have K105 : ∀ t, Steps p.tables e below (T104.setTop (mkF m 8 #[.val (.ref a1), .val (.int (1 : Int32))] [(.int (1 : Int32))])) t → Steps p.tables e below (s₁.setTop (entryFrame m #[(.ref a1), (.int (1 : Int32))] 2)) t := fun t kt => K103 t (st104 t kt)
  have K106 : ∀ t, Steps p.tables e below (T104.setTop (mkF m 11 #[.val (.ref a1), .val (.int (1 : Int32))] [(.int (1 : Int32)), (.ref a1)])) t → Steps p.tables e below (s₁.setTop (entryFrame m #[(.ref a1), (.int (1 : Int32))] 2)) t := by
    intro t kt
    refine K105 t ?_
    show Steps p.tables e below (T104.setTop (mkF m 8 #[.val (.ref a1), .val (.int (1 : Int32))] [(.int (1 : Int32))])) _
    refine XS.pop X104.here hx rfl (hb hby d20_8) rfl rfl ?_
    show Steps p.tables e below (T104.setTop (mkF m 9 #[.val (.ref a1), .val (.int (1 : Int32))] [])) _
    refine XS.aloadN X104.here hx rfl (hb hby d20_9) rfl rfl ?_
    show Steps p.tables e below (T104.setTop (mkF m 10 #[.val (.ref a1), .val (.int (1 : Int32))] [(.ref a1)])) _
    refine XS.iloadN X104.here hx rfl (hb hby d20_10) rfl ?_
    exact kt
  obtain ⟨cq107, kq107, q107a, q107b, q107c⟩ := isOf hZ e104 E1
  obtain ⟨_, _, ⟨T107, L107, k107, n107⟩, -, X107, ⟨Lc107, hQ107, l107, y107, z107⟩, st107⟩ := X104.virtualBack hx (y := (⟨"java/util/ArrayList", "elementData", "(I)Ljava/lang/Object;"⟩ : MethodName)) (z := (⟨"java/util/ArrayList", "elementData", "(I)Ljava/lang/Object;"⟩ : MethodName)) hown (mvT hZ (hw _ (List.mem_of_getElem? (i := 147) rfl))) (mvT hZ (hw _ (List.mem_of_getElem? (i := 148) rfl))) (notFace_of_selects (args := #[]) (mvT hZ (hw _ (List.mem_of_getElem? (i := 150) rfl)))) (mvT hZ (hw _ (List.mem_of_getElem? (i := 150) rfl))) (mvT hZ (hw _ (List.mem_of_getElem? (i := 149) rfl))) (by decide) (backOf (W := 0) (rmED1 l Z a0 hw [] a1 tq kk el0 el1 el2 h0 n0 Z0 E1 F2 F3 V1) hZ (hw _ (List.mem_of_getElem? (i := 151) rfl)) (hw _ (List.mem_of_getElem? (i := 43) rfl)) (by decide) (by decide)) q107a q107c (g := (mkF m 11 #[.val (.ref a1), .val (.int (1 : Int32))] [(.int (1 : Int32)), (.ref a1)])) rfl (by rw [hml]; rfl) (Steps.refl _) (argsL := [(.int (1 : Int32))]) (rest := []) (lenOf pd_11 rfl) rfl (by show 2 * 0 + _ ≤ _; exact Nat.le_of_eq rfl) (hb hby d20_11) (fun _ _ => ⟨rfl, e104, (by decide : 0 + 0 ≤ _), (by decide : 0 + 0 ≤ _)⟩)
  dsimp only [Pt.U, Pt.locs, Pt.cells, Pt.slots] at X107 l107 y107 z107 st107 hQ107
  subst l107 y107 z107
  obtain ⟨rfl, Nq107, e107⟩ := hQ107
  have N107 := Fr.app N104 Nq107
  have K108 : ∀ t, Steps p.tables e below (T107.setTop (mkF m 14 #[.val (.ref a1), .val (.int (1 : Int32))] [(.ref el1)])) t → Steps p.tables e below (s₁.setTop (entryFrame m #[(.ref a1), (.int (1 : Int32))] 2)) t := fun t kt => K106 t (st107.trans kt)
  obtain ⟨fs, hr, hrun, hended, hW, hsame⟩ := X107.leave (v := some (.ref el1)) (fun h => by rw [Bd.returns] at h; cases h) (hlocks := hlk)
  refine ⟨_, _, K108 _ ?_, hrun, hended, _, _, rfl, ?_, ⟨_, rfl⟩, hW, hsame.mono (by decide) (by decide)⟩
  · exact retOut X107 hx Bd.returns rfl (Or.inr (Or.inr (Or.inr (Or.inr ⟨rfl, rfl, rfl⟩)))) (hb hby d20_14) hr
  · show QrmGT1 el1 h0 n0 _ T107.heap _
    rw [e107]
    exact ⟨rfl, N107, rfl⟩
theorem ef_rmED2 (m : MethodId) (x0 : Addr) (x1 : Int32) : entryFrame m #[(.ref x0), (.int x1)] 2 = mkF m 0 #[.val (.ref x0), .val (.int x1)] [] := by first | (simp [entryFrame, mkF, argsToLocals, Value.category]; done) | rfl
def QrmED2 (e : Addr) (h0 : Heap) (n0 : Nat) (v : Option Value) (h : Heap) (L : List Loc) : Prop := v = some (.ref e) ∧ Fr n0 L ∧ h = h0
set_option maxRecDepth 65536 in
set_option maxHeartbeats 40000000 in
theorem rmED2 (l : Launch) (Z : State) (a0 : Array Value) (hw : ∀ d ∈ tables_1, d.before a0 Z = true) (ws : List Jvm.Cond) (a1 tq : Addr) (kk : ClassId) (el0 el1 el2 : Addr) (h0 : Heap) (n0 : Nat) (Z0 : n0 ≤ h0.size) (E1 : Exa Z h0 a1 "java/util/ArrayList") (F2 : Fld Z h0 a1 "java/util/ArrayList" "elementData" "[Ljava/lang/Object;" (.ref tq)) (F3 : Fld Z h0 a1 "java/util/ArrayList" "size" "I" (.int (3 : Int32))) (V1 : Arv Z h0 tq kk (.object "java/lang/Object") (3 : Int32) [(.ref el0), (.ref el1), (.ref el2)] .null) :
    MetFree l (⟨"java/util/ArrayList", "elementData", "(I)Ljava/lang/Object;"⟩ : MethodName) (head1 (Jvm.Cond.code (⟨"java/util/ArrayList", "elementData", "(I)Ljava/lang/Object;"⟩ : MethodName) jdk_38_method_18_code 2 (some (.object "java/lang/Object")) :: ws) ({ frames := 0, cells := 0, slots := 0, locals := 0 } : Room)) (fun a U => a = #[(.ref a1), (.int (2 : Int32))] ∧ Z.Warmed39 U.vm ∧ U.heap = h0) (fun _ _ _ _ _ => True) (fun _ U o U' => ∃ v L, o = .returned v ∧ QrmED2 el2 h0 n0 v U'.heap L ∧ FrameEnd U o U' L ({ frames := 0, cells := 0, slots := 0, locals := 0 } : Room).cells ({ frames := 0, cells := 0, slots := 0, locals := 0 } : Room).slots) := by
  refine MetFree.of_bodySF (plainFor_of_name pn_5) hisR ?_
  intro p e s m args below meth c s₁ Bd hml0 hP hK
  obtain ⟨rfl, hZ, hh⟩ := hP
  have hx := Bd.exec
  have hlk : meth.locks = false := BodyLoose.notSynchronized Bd
  have hby := Bd.bytes
  have hml : c.maxLocals = 2 := hml0
  have hown : s.vm.findClass "java/util/ArrayList" = some m.cls := findClass_of_methodNamed Bd.named
  have hnm := (name_of_methodNamed Bd.named Bd.method).1
  have X0 : Stand p l e ({ frames := 0, cells := 0, slots := 0, locals := 0 } : Room) s m #[(.ref a1), (.int (2 : Int32))] below meth c s₁ [] 0 0 := Stand.of_body Bd
  have e0 : s₁.heap = h0 := by rw [← hh, Bd.state]; rfl
  have N0 := Fr.nil n0
  have K0 : ∀ t, Steps p.tables e below (s₁.setTop (mkF m 0 #[.val (.ref a1), .val (.int (2 : Int32))] [])) t → Steps p.tables e below (s₁.setTop (entryFrame m #[(.ref a1), (.int (2 : Int32))] 2)) t := fun t k => castTop (ef_rmED2 m a1 (2 : Int32)) k
  have KK0 : Keep h0 h0 [] := Keep.refl _ _
  
  have K101 : ∀ t, Steps p.tables e below (s₁.setTop (mkF m 1 #[.val (.ref a1), .val (.int (2 : Int32))] [(.ref a1)])) t → Steps p.tables e below (s₁.setTop (entryFrame m #[(.ref a1), (.int (2 : Int32))] 2)) t := by
    intro t kt
    refine K0 t ?_
    show Steps p.tables e below (s₁.setTop (mkF m 0 #[.val (.ref a1), .val (.int (2 : Int32))] [])) _
    refine XS.aloadN X0.here hx rfl (hb hby d23_0) rfl rfl ?_
    exact kt
  obtain ⟨T102, X102, e102, st102⟩ := getF X0 hx hZ hown (host := "") (Or.inl (hw _ (List.mem_of_getElem? (i := 64) rfl))) Via.refl e0 F2 (g := (mkF m 1 #[.val (.ref a1), .val (.int (2 : Int32))] [(.ref a1)])) rfl rfl (hb hby d23_1)
  have K103 : ∀ t, Steps p.tables e below (T102.setTop (mkF m 4 #[.val (.ref a1), .val (.int (2 : Int32))] [(.ref tq)])) t → Steps p.tables e below (s₁.setTop (entryFrame m #[(.ref a1), (.int (2 : Int32))] 2)) t := fun t kt => K101 t (st102 t kt)
  have K104 : ∀ t, Steps p.tables e below (T102.setTop (mkF m 5 #[.val (.ref a1), .val (.int (2 : Int32))] [(.int (2 : Int32)), (.ref tq)])) t → Steps p.tables e below (s₁.setTop (entryFrame m #[(.ref a1), (.int (2 : Int32))] 2)) t := by
    intro t kt
    refine K103 t ?_
    show Steps p.tables e below (T102.setTop (mkF m 4 #[.val (.ref a1), .val (.int (2 : Int32))] [(.ref tq)])) _
    refine XS.iloadN X102.here hx rfl (hb hby d23_4) rfl ?_
    exact kt
  obtain ⟨cl105, Ar105, q105, S105, M105, H105, G105⟩ := id V1
  have hin105 : ¬ ((2 : Int32) < 0 ∨ cl105.slots.size ≤ ((2 : Int32)).toNatClampNeg) := inb_of S105 ⟨by decide, by decide⟩
  have hat105 : cl105.slots[((2 : Int32)).toNatClampNeg]? = some (.ref el2) := H105 2 (by rw [S105]; decide)
  have K106 : ∀ t, Steps p.tables e below (T102.setTop (mkF m 6 #[.val (.ref a1), .val (.int (2 : Int32))] [(.ref el2)])) t → Steps p.tables e below (s₁.setTop (entryFrame m #[(.ref a1), (.int (2 : Int32))] 2)) t := by
    intro t kt
    refine K104 t ?_
    show Steps p.tables e below (T102.setTop (mkF m 5 #[.val (.ref a1), .val (.int (2 : Int32))] [(.int (2 : Int32)), (.ref tq)])) _
    refine X102.aaload hx (j := (2 : Int32)) (v := (.ref el2)) (by rw [e102]; exact Ar105.1) (State.isArrayOf_alike hZ.alike Ar105.2.1) rfl Ar105.2.2 hin105 hat105 (g := (mkF m 5 #[.val (.ref a1), .val (.int (2 : Int32))] [(.int (2 : Int32)), (.ref tq)])) rfl rfl (hb hby d23_5) _ ?_
    exact kt
  obtain ⟨fs, hr, hrun, hended, hW, hsame⟩ := X102.leave (v := some (.ref el2)) (fun h => by rw [Bd.returns] at h; cases h) (hlocks := hlk)
  refine ⟨_, _, K106 _ ?_, hrun, hended, _, _, rfl, ?_, ⟨_, rfl⟩, hW, hsame.mono (by decide) (by decide)⟩
  · exact retOut X102 hx Bd.returns rfl (Or.inr (Or.inr (Or.inr (Or.inr ⟨rfl, rfl, rfl⟩)))) (hb hby d23_6) hr
  · show QrmED2 el2 h0 n0 _ T102.heap _
    rw [e102]
    exact ⟨rfl, N0, rfl⟩
theorem ef_rmGT2 (m : MethodId) (x0 : Addr) (x1 : Int32) : entryFrame m #[(.ref x0), (.int x1)] 2 = mkF m 0 #[.val (.ref x0), .val (.int x1)] [] := by first | (simp [entryFrame, mkF, argsToLocals, Value.category]; done) | rfl
def QrmGT2 (e : Addr) (h0 : Heap) (n0 : Nat) (v : Option Value) (h : Heap) (L : List Loc) : Prop := v = some (.ref e) ∧ Fr n0 L ∧ h = h0
set_option maxRecDepth 65536 in
set_option maxHeartbeats 40000000 in
theorem rmGT2 (l : Launch) (Z : State) (a0 : Array Value) (hw : ∀ d ∈ tables_1, d.before a0 Z = true) (ws : List Jvm.Cond) (a1 tq : Addr) (kk : ClassId) (el0 el1 el2 : Addr) (h0 : Heap) (n0 : Nat) (Z0 : n0 ≤ h0.size) (E1 : Exa Z h0 a1 "java/util/ArrayList") (F2 : Fld Z h0 a1 "java/util/ArrayList" "elementData" "[Ljava/lang/Object;" (.ref tq)) (F3 : Fld Z h0 a1 "java/util/ArrayList" "size" "I" (.int (3 : Int32))) (V1 : Arv Z h0 tq kk (.object "java/lang/Object") (3 : Int32) [(.ref el0), (.ref el1), (.ref el2)] .null) :
    MetFree l (⟨"java/util/ArrayList", "get", "(I)Ljava/lang/Object;"⟩ : MethodName) (head1 (Jvm.Cond.code (⟨"java/util/ArrayList", "get", "(I)Ljava/lang/Object;"⟩ : MethodName) jdk_38_method_20_code 2 (some (.object "java/lang/Object")) :: ws) ({ frames := 2, cells := 0, slots := 0, locals := 27 } : Room)) (fun a U => a = #[(.ref a1), (.int (2 : Int32))] ∧ Z.Warmed39 U.vm ∧ U.heap = h0) (fun _ _ _ _ _ => True) (fun _ U o U' => ∃ v L, o = .returned v ∧ QrmGT2 el2 h0 n0 v U'.heap L ∧ FrameEnd U o U' L ({ frames := 2, cells := 0, slots := 0, locals := 27 } : Room).cells ({ frames := 2, cells := 0, slots := 0, locals := 27 } : Room).slots) := by
  refine MetFree.of_bodySF (plainFor_of_name pn_5) hisR ?_
  intro p e s m args below meth c s₁ Bd hml0 hP hK
  obtain ⟨rfl, hZ, hh⟩ := hP
  have hx := Bd.exec
  have hlk : meth.locks = false := BodyLoose.notSynchronized Bd
  have hby := Bd.bytes
  have hml : c.maxLocals = 2 := hml0
  have hown : s.vm.findClass "java/util/ArrayList" = some m.cls := findClass_of_methodNamed Bd.named
  have hnm := (name_of_methodNamed Bd.named Bd.method).1
  have X0 : Stand p l e ({ frames := 2, cells := 0, slots := 0, locals := 27 } : Room) s m #[(.ref a1), (.int (2 : Int32))] below meth c s₁ [] 0 0 := Stand.of_body Bd
  have e0 : s₁.heap = h0 := by rw [← hh, Bd.state]; rfl
  have N0 := Fr.nil n0
  have K0 : ∀ t, Steps p.tables e below (s₁.setTop (mkF m 0 #[.val (.ref a1), .val (.int (2 : Int32))] [])) t → Steps p.tables e below (s₁.setTop (entryFrame m #[(.ref a1), (.int (2 : Int32))] 2)) t := fun t k => castTop (ef_rmGT2 m a1 (2 : Int32)) k
  have KK0 : Keep h0 h0 [] := Keep.refl _ _
  
  have K101 : ∀ t, Steps p.tables e below (s₁.setTop (mkF m 2 #[.val (.ref a1), .val (.int (2 : Int32))] [(.ref a1), (.int (2 : Int32))])) t → Steps p.tables e below (s₁.setTop (entryFrame m #[(.ref a1), (.int (2 : Int32))] 2)) t := by
    intro t kt
    refine K0 t ?_
    show Steps p.tables e below (s₁.setTop (mkF m 0 #[.val (.ref a1), .val (.int (2 : Int32))] [])) _
    refine XS.iloadN X0.here hx rfl (hb hby d20_0) rfl ?_
    show Steps p.tables e below (s₁.setTop (mkF m 1 #[.val (.ref a1), .val (.int (2 : Int32))] [(.int (2 : Int32))])) _
    refine XS.aloadN X0.here hx rfl (hb hby d20_1) rfl rfl ?_
    exact kt
  obtain ⟨T102, X102, e102, st102⟩ := getF X0 hx hZ hown (host := "") (Or.inl (hw _ (List.mem_of_getElem? (i := 108) rfl))) Via.refl e0 F3 (g := (mkF m 2 #[.val (.ref a1), .val (.int (2 : Int32))] [(.ref a1), (.int (2 : Int32))])) rfl rfl (hb hby d20_2)
  have K103 : ∀ t, Steps p.tables e below (T102.setTop (mkF m 5 #[.val (.ref a1), .val (.int (2 : Int32))] [(.int (3 : Int32)), (.int (2 : Int32))])) t → Steps p.tables e below (s₁.setTop (entryFrame m #[(.ref a1), (.int (2 : Int32))] 2)) t := fun t kt => K101 t (st102 t kt)
  obtain ⟨_, _, ⟨T104, L104, k104, n104⟩, -, X104, ⟨Lc104, hQ104, l104, y104, z104⟩, st104⟩ := Jvm.LawKit.callS X102 hx (y := (⟨"java/util/Objects", "checkIndex", "(II)I"⟩ : MethodName)) hown (mvT hZ (hw _ (List.mem_of_getElem? (i := 139) rfl))) (mvT hZ (hw _ (List.mem_of_getElem? (i := 140) rfl))) (mvT hZ (hw _ (List.mem_of_getElem? (i := 141) rfl))) (mvT hZ (hw _ (List.mem_of_getElem? (i := 142) rfl))) (by decide) (backOf (W := 0) (rmOC l Z a0 hw [] (2 : Int32) (3 : Int32) h0 n0 Z0 (by decide) (by decide)) hZ (hw _ (List.mem_of_getElem? (i := 142) rfl)) (hw _ (List.mem_of_getElem? (i := 141) rfl)) (by decide) (by decide)) (g := (mkF m 5 #[.val (.ref a1), .val (.int (2 : Int32))] [(.int (3 : Int32)), (.int (2 : Int32))])) rfl (by rw [hml]; rfl) (argsL := [(.int (2 : Int32)), (.int (3 : Int32))]) (rest := []) (lenOf pd_10 rfl) rfl (by show 2 * 0 + _ ≤ _; exact Nat.le_of_eq rfl) (hb hby d20_5) (fun _ _ => ⟨rfl, e102, (by decide : 0 + 0 ≤ _), (by decide : 0 + 0 ≤ _)⟩)
  dsimp only [Pt.U, Pt.locs, Pt.cells, Pt.slots] at X104 l104 y104 z104 st104 hQ104
  subst l104 y104 z104
  obtain ⟨rfl, Nq104, e104⟩ := hQ104
  have N104 := Fr.app N0 Nq104
  have K105 : ∀ t, Steps p.tables e below (T104.setTop (mkF m 8 #[.val (.ref a1), .val (.int (2 : Int32))] [(.int (2 : Int32))])) t → Steps p.tables e below (s₁.setTop (entryFrame m #[(.ref a1), (.int (2 : Int32))] 2)) t := fun t kt => K103 t (st104 t kt)
  have K106 : ∀ t, Steps p.tables e below (T104.setTop (mkF m 11 #[.val (.ref a1), .val (.int (2 : Int32))] [(.int (2 : Int32)), (.ref a1)])) t → Steps p.tables e below (s₁.setTop (entryFrame m #[(.ref a1), (.int (2 : Int32))] 2)) t := by
    intro t kt
    refine K105 t ?_
    show Steps p.tables e below (T104.setTop (mkF m 8 #[.val (.ref a1), .val (.int (2 : Int32))] [(.int (2 : Int32))])) _
    refine XS.pop X104.here hx rfl (hb hby d20_8) rfl rfl ?_
    show Steps p.tables e below (T104.setTop (mkF m 9 #[.val (.ref a1), .val (.int (2 : Int32))] [])) _
    refine XS.aloadN X104.here hx rfl (hb hby d20_9) rfl rfl ?_
    show Steps p.tables e below (T104.setTop (mkF m 10 #[.val (.ref a1), .val (.int (2 : Int32))] [(.ref a1)])) _
    refine XS.iloadN X104.here hx rfl (hb hby d20_10) rfl ?_
    exact kt
  obtain ⟨cq107, kq107, q107a, q107b, q107c⟩ := isOf hZ e104 E1
  obtain ⟨_, _, ⟨T107, L107, k107, n107⟩, -, X107, ⟨Lc107, hQ107, l107, y107, z107⟩, st107⟩ := X104.virtualBack hx (y := (⟨"java/util/ArrayList", "elementData", "(I)Ljava/lang/Object;"⟩ : MethodName)) (z := (⟨"java/util/ArrayList", "elementData", "(I)Ljava/lang/Object;"⟩ : MethodName)) hown (mvT hZ (hw _ (List.mem_of_getElem? (i := 147) rfl))) (mvT hZ (hw _ (List.mem_of_getElem? (i := 148) rfl))) (notFace_of_selects (args := #[]) (mvT hZ (hw _ (List.mem_of_getElem? (i := 150) rfl)))) (mvT hZ (hw _ (List.mem_of_getElem? (i := 150) rfl))) (mvT hZ (hw _ (List.mem_of_getElem? (i := 149) rfl))) (by decide) (backOf (W := 0) (rmED2 l Z a0 hw [] a1 tq kk el0 el1 el2 h0 n0 Z0 E1 F2 F3 V1) hZ (hw _ (List.mem_of_getElem? (i := 151) rfl)) (hw _ (List.mem_of_getElem? (i := 43) rfl)) (by decide) (by decide)) q107a q107c (g := (mkF m 11 #[.val (.ref a1), .val (.int (2 : Int32))] [(.int (2 : Int32)), (.ref a1)])) rfl (by rw [hml]; rfl) (Steps.refl _) (argsL := [(.int (2 : Int32))]) (rest := []) (lenOf pd_11 rfl) rfl (by show 2 * 0 + _ ≤ _; exact Nat.le_of_eq rfl) (hb hby d20_11) (fun _ _ => ⟨rfl, e104, (by decide : 0 + 0 ≤ _), (by decide : 0 + 0 ≤ _)⟩)
  dsimp only [Pt.U, Pt.locs, Pt.cells, Pt.slots] at X107 l107 y107 z107 st107 hQ107
  subst l107 y107 z107
  obtain ⟨rfl, Nq107, e107⟩ := hQ107
  have N107 := Fr.app N104 Nq107
  have K108 : ∀ t, Steps p.tables e below (T107.setTop (mkF m 14 #[.val (.ref a1), .val (.int (2 : Int32))] [(.ref el2)])) t → Steps p.tables e below (s₁.setTop (entryFrame m #[(.ref a1), (.int (2 : Int32))] 2)) t := fun t kt => K106 t (st107.trans kt)
  obtain ⟨fs, hr, hrun, hended, hW, hsame⟩ := X107.leave (v := some (.ref el2)) (fun h => by rw [Bd.returns] at h; cases h) (hlocks := hlk)
  refine ⟨_, _, K108 _ ?_, hrun, hended, _, _, rfl, ?_, ⟨_, rfl⟩, hW, hsame.mono (by decide) (by decide)⟩
  · exact retOut X107 hx Bd.returns rfl (Or.inr (Or.inr (Or.inr (Or.inr ⟨rfl, rfl, rfl⟩)))) (hb hby d20_14) hr
  · show QrmGT2 el2 h0 n0 _ T107.heap _
    rw [e107]
    exact ⟨rfl, N107, rfl⟩
theorem ef_rmCS (m : MethodId) (x0 : Addr) (x1 : Int64) : entryFrame m #[(.ref x0), (.long x1)] 5 = mkF m 0 #[.val (.ref x0), .val (.long x1), .second, .unset, .unset] [] := by first | (simp [entryFrame, mkF, argsToLocals, Value.category]; done) | rfl
def QrmCS  (h0 : Heap) (n0 : Nat) (v : Option Value) (h : Heap) (L : List Loc) : Prop := v = some (.int (0 : Int32)) ∧ Fr n0 L ∧ h = h0
set_option maxRecDepth 65536 in
set_option maxHeartbeats 40000000 in
theorem rmCS (l : Launch) (Z : State) (a0 : Array Value) (hw : ∀ d ∈ tables_1, d.before a0 Z = true) (ws : List Jvm.Cond) (a1 : Addr) (h0 : Heap) (n0 : Nat) (Z0 : n0 ≤ h0.size)  :
    MetFree l (⟨"java/math/BigDecimal", "checkScale", "(J)I"⟩ : MethodName) (head1 (Jvm.Cond.code (⟨"java/math/BigDecimal", "checkScale", "(J)I"⟩ : MethodName) jdk_17_method_106_code 5 (some .int) :: ws) ({ frames := 0, cells := 0, slots := 0, locals := 0 } : Room)) (fun a U => a = #[(.ref a1), (.long (0 : Int64))] ∧ Z.Warmed39 U.vm ∧ U.heap = h0) (fun _ _ _ _ _ => True) (fun _ U o U' => ∃ v L, o = .returned v ∧ QrmCS  h0 n0 v U'.heap L ∧ FrameEnd U o U' L ({ frames := 0, cells := 0, slots := 0, locals := 0 } : Room).cells ({ frames := 0, cells := 0, slots := 0, locals := 0 } : Room).slots) := by
  refine MetFree.of_bodySF (plainFor_of_name pn_3) hisR ?_
  intro p e s m args below meth c s₁ Bd hml0 hP hK
  obtain ⟨rfl, hZ, hh⟩ := hP
  have hx := Bd.exec
  have hlk : meth.locks = false := BodyLoose.notSynchronized Bd
  have hby := Bd.bytes
  have hml : c.maxLocals = 5 := hml0
  have hown : s.vm.findClass "java/math/BigDecimal" = some m.cls := findClass_of_methodNamed Bd.named
  have hnm := (name_of_methodNamed Bd.named Bd.method).1
  have X0 : Stand p l e ({ frames := 0, cells := 0, slots := 0, locals := 0 } : Room) s m #[(.ref a1), (.long (0 : Int64))] below meth c s₁ [] 0 0 := Stand.of_body Bd
  have e0 : s₁.heap = h0 := by rw [← hh, Bd.state]; rfl
  have N0 := Fr.nil n0
  have K0 : ∀ t, Steps p.tables e below (s₁.setTop (mkF m 0 #[.val (.ref a1), .val (.long (0 : Int64)), .second, .unset, .unset] [])) t → Steps p.tables e below (s₁.setTop (entryFrame m #[(.ref a1), (.long (0 : Int64))] 5)) t := fun t k => castTop (ef_rmCS m a1 (0 : Int64)) k
  have KK0 : Keep h0 h0 [] := Keep.refl _ _
  
  have K101 : ∀ t, Steps p.tables e below (s₁.setTop (mkF m 77 #[.val (.ref a1), .val (.long (0 : Int64)), .second, .val (.int ((0 : Int64).toInt32)), .unset] [(.int ((0 : Int64).toInt32))])) t → Steps p.tables e below (s₁.setTop (entryFrame m #[(.ref a1), (.long (0 : Int64))] 5)) t := by
    intro t kt
    refine K0 t ?_
    show Steps p.tables e below (s₁.setTop (mkF m 0 #[.val (.ref a1), .val (.long (0 : Int64)), .second, .unset, .unset] [])) _
    refine XS.lloadN X0.here hx rfl (hb hby d26_0) rfl ?_
    show Steps p.tables e below (s₁.setTop (mkF m 1 #[.val (.ref a1), .val (.long (0 : Int64)), .second, .unset, .unset] [(.long (0 : Int64))])) _
    refine XS.l2i X0.here hx rfl (hb hby d26_1) rfl ?_
    show Steps p.tables e below (s₁.setTop (mkF m 2 #[.val (.ref a1), .val (.long (0 : Int64)), .second, .unset, .unset] [(.int ((0 : Int64).toInt32))])) _
    refine XS.istoreN X0.here hx rfl (hb hby d26_2) rfl (l' := #[.val (.ref a1), .val (.long (0 : Int64)), .second, .val (.int ((0 : Int64).toInt32)), .unset]) rfl ?_
    show Steps p.tables e below (s₁.setTop (mkF m 3 #[.val (.ref a1), .val (.long (0 : Int64)), .second, .val (.int ((0 : Int64).toInt32)), .unset] [])) _
    refine XS.iloadN X0.here hx rfl (hb hby d26_3) rfl ?_
    show Steps p.tables e below (s₁.setTop (mkF m 4 #[.val (.ref a1), .val (.long (0 : Int64)), .second, .val (.int ((0 : Int64).toInt32)), .unset] [(.int ((0 : Int64).toInt32))])) _
    refine XS.i2l X0.here hx rfl (hb hby d26_4) rfl ?_
    show Steps p.tables e below (s₁.setTop (mkF m 5 #[.val (.ref a1), .val (.long (0 : Int64)), .second, .val (.int ((0 : Int64).toInt32)), .unset] [(.long (((0 : Int64).toInt32).toInt64))])) _
    refine XS.lloadN X0.here hx rfl (hb hby d26_5) rfl ?_
    show Steps p.tables e below (s₁.setTop (mkF m 6 #[.val (.ref a1), .val (.long (0 : Int64)), .second, .val (.int ((0 : Int64).toInt32)), .unset] [(.long (0 : Int64)), (.long (((0 : Int64).toInt32).toInt64))])) _
    refine XS.lcmp X0.here hx rfl (hb hby d26_6) rfl ?_
    show Steps p.tables e below (s₁.setTop (mkF m 7 #[.val (.ref a1), .val (.long (0 : Int64)), .second, .val (.int ((0 : Int64).toInt32)), .unset] [(.int (lcmpW (((0 : Int64).toInt32).toInt64) (0 : Int64)))])) _
    refine XS.ifYes X0.here hx rfl (pc0 := 7) (pc' := 76) rfl (hb hby d26_7) rfl ((if0 _ _).trans (teq (by decide : (lcmpW (((0 : Int64).toInt32).toInt64) (0 : Int64)) = (0 : Int32))).1) (by decide) (by decide) ?_
    show Steps p.tables e below (s₁.setTop (mkF m 76 #[.val (.ref a1), .val (.long (0 : Int64)), .second, .val (.int ((0 : Int64).toInt32)), .unset] [])) _
    refine XS.iloadN X0.here hx rfl (hb hby d26_76) rfl ?_
    exact kt
  have iz : ((0 : Int64).toInt32) = (0 : Int32) := by decide
  obtain ⟨fs, hr, hrun, hended, hW, hsame⟩ := X0.leave (v := some (.int ((0 : Int64).toInt32))) (fun h => by rw [Bd.returns] at h; cases h) (hlocks := hlk)
  refine ⟨_, _, K101 _ ?_, hrun, hended, _, _, rfl, ?_, ⟨_, rfl⟩, hW, hsame.mono (by decide) (by decide)⟩
  · exact retI X0 hx Bd.returns (hb hby d26_77) hr
  · show QrmCS h0 n0 _ s₁.heap _
    rw [e0]
    exact ⟨by rw [iz], N0, rfl⟩
theorem ef_rmMP (m : MethodId) (x0 : Addr) (x1 : Int32) : entryFrame m #[(.ref x0), (.int x1)] 4 = mkF m 0 #[.val (.ref x0), .val (.int x1), .unset, .unset] [] := by first | (simp [entryFrame, mkF, argsToLocals, Value.category]; done) | rfl
def QrmMP (Z : State) (x : Int64) (iv : Value) (h0 : Heap) (n0 : Nat) (v : Option Value) (h : Heap) (L : List Loc) : Prop := ∃ b : Addr, v = some (.ref b) ∧ BDp Z h b x (0 : Int32) iv ∧ Fr n0 L ∧ Keep h0 h []
set_option maxRecDepth 65536 in
set_option maxHeartbeats 40000000 in
theorem rmMP (l : Launch) (Z : State) (a0 : Array Value) (hw : ∀ d ∈ tables_1, d.before a0 Z = true) (ws : List Jvm.Cond) (a1 : Addr) (x : Int64) (iv : Value) (h0 : Heap) (n0 : Nat) (Z0 : n0 ≤ h0.size) (ri : iv.isRef = true) (B1 : BDp Z h0 a1 x (2 : Int32) iv) :
    MetFree l (⟨"java/math/BigDecimal", "movePointRight", "(I)Ljava/math/BigDecimal;"⟩ : MethodName) (head1 (Jvm.Cond.code (⟨"java/math/BigDecimal", "movePointRight", "(I)Ljava/math/BigDecimal;"⟩ : MethodName) jdk_17_method_67_code 4 (some (.object "java/math/BigDecimal")) :: ws) ({ frames := 3, cells := 1, slots := 5, locals := 42 } : Room)) (fun a U => a = #[(.ref a1), (.int (2 : Int32))] ∧ Z.Warmed39 U.vm ∧ U.heap = h0) (fun _ _ _ _ _ => True) (fun _ U o U' => ∃ v L, o = .returned v ∧ QrmMP Z x iv h0 n0 v U'.heap L ∧ FrameEnd U o U' L ({ frames := 3, cells := 1, slots := 5, locals := 42 } : Room).cells ({ frames := 3, cells := 1, slots := 5, locals := 42 } : Room).slots) := by
  refine MetFree.of_bodySF (plainFor_of_name pn_3) hisR ?_
  intro p e s m args below meth c s₁ Bd hml0 hP hK
  obtain ⟨rfl, hZ, hh⟩ := hP
  have hx := Bd.exec
  have hlk : meth.locks = false := BodyLoose.notSynchronized Bd
  have hby := Bd.bytes
  have hml : c.maxLocals = 4 := hml0
  have hown : s.vm.findClass "java/math/BigDecimal" = some m.cls := findClass_of_methodNamed Bd.named
  have hnm := (name_of_methodNamed Bd.named Bd.method).1
  have X0 : Stand p l e ({ frames := 3, cells := 1, slots := 5, locals := 42 } : Room) s m #[(.ref a1), (.int (2 : Int32))] below meth c s₁ [] 0 0 := Stand.of_body Bd
  have e0 : s₁.heap = h0 := by rw [← hh, Bd.state]; rfl
  have N0 := Fr.nil n0
  have K0 : ∀ t, Steps p.tables e below (s₁.setTop (mkF m 0 #[.val (.ref a1), .val (.int (2 : Int32)), .unset, .unset] [])) t → Steps p.tables e below (s₁.setTop (entryFrame m #[(.ref a1), (.int (2 : Int32))] 4)) t := fun t k => castTop (ef_rmMP m a1 (2 : Int32)) k
  have KK0 : Keep h0 h0 [] := Keep.refl _ _
  
  have K101 : ∀ t, Steps p.tables e below (s₁.setTop (mkF m 15 #[.val (.ref a1), .val (.int (2 : Int32)), .unset, .unset] [(.ref a1), (.ref a1)])) t → Steps p.tables e below (s₁.setTop (entryFrame m #[(.ref a1), (.int (2 : Int32))] 4)) t := by
    intro t kt
    refine K0 t ?_
    show Steps p.tables e below (s₁.setTop (mkF m 0 #[.val (.ref a1), .val (.int (2 : Int32)), .unset, .unset] [])) _
    refine XS.iloadN X0.here hx rfl (hb hby d25_0) rfl ?_
    show Steps p.tables e below (s₁.setTop (mkF m 1 #[.val (.ref a1), .val (.int (2 : Int32)), .unset, .unset] [(.int (2 : Int32))])) _
    refine XS.ifYes X0.here hx rfl (pc0 := 1) (pc' := 13) rfl (hb hby d25_1) rfl ((if0 _ _).trans (feq (by decide : ¬ ((2 : Int32) = (0 : Int32)))).2) (by decide) (by decide) ?_
    show Steps p.tables e below (s₁.setTop (mkF m 13 #[.val (.ref a1), .val (.int (2 : Int32)), .unset, .unset] [])) _
    refine XS.aloadN X0.here hx rfl (hb hby d25_13) rfl rfl ?_
    show Steps p.tables e below (s₁.setTop (mkF m 14 #[.val (.ref a1), .val (.int (2 : Int32)), .unset, .unset] [(.ref a1)])) _
    refine XS.aloadN X0.here hx rfl (hb hby d25_14) rfl rfl ?_
    exact kt
  obtain ⟨T102, X102, e102, st102⟩ := getF X0 hx hZ hown (host := "") (Or.inl (hw _ (List.mem_of_getElem? (i := 89) rfl))) Via.refl e0 B1.2.2.1 (g := (mkF m 15 #[.val (.ref a1), .val (.int (2 : Int32)), .unset, .unset] [(.ref a1), (.ref a1)])) rfl rfl (hb hby d25_15)
  have K103 : ∀ t, Steps p.tables e below (T102.setTop (mkF m 18 #[.val (.ref a1), .val (.int (2 : Int32)), .unset, .unset] [(.int (2 : Int32)), (.ref a1)])) t → Steps p.tables e below (s₁.setTop (entryFrame m #[(.ref a1), (.int (2 : Int32))] 4)) t := fun t kt => K101 t (st102 t kt)
  have K104 : ∀ t, Steps p.tables e below (T102.setTop (mkF m 22 #[.val (.ref a1), .val (.int (2 : Int32)), .unset, .unset] [(.long (((2 : Int32).toInt64) - ((2 : Int32).toInt64))), (.ref a1)])) t → Steps p.tables e below (s₁.setTop (entryFrame m #[(.ref a1), (.int (2 : Int32))] 4)) t := by
    intro t kt
    refine K103 t ?_
    show Steps p.tables e below (T102.setTop (mkF m 18 #[.val (.ref a1), .val (.int (2 : Int32)), .unset, .unset] [(.int (2 : Int32)), (.ref a1)])) _
    refine XS.i2l X102.here hx rfl (hb hby d25_18) rfl ?_
    show Steps p.tables e below (T102.setTop (mkF m 19 #[.val (.ref a1), .val (.int (2 : Int32)), .unset, .unset] [(.long ((2 : Int32).toInt64)), (.ref a1)])) _
    refine XS.iloadN X102.here hx rfl (hb hby d25_19) rfl ?_
    show Steps p.tables e below (T102.setTop (mkF m 20 #[.val (.ref a1), .val (.int (2 : Int32)), .unset, .unset] [(.int (2 : Int32)), (.long ((2 : Int32).toInt64)), (.ref a1)])) _
    refine XS.i2l X102.here hx rfl (hb hby d25_20) rfl ?_
    show Steps p.tables e below (T102.setTop (mkF m 21 #[.val (.ref a1), .val (.int (2 : Int32)), .unset, .unset] [(.long ((2 : Int32).toInt64)), (.long ((2 : Int32).toInt64)), (.ref a1)])) _
    refine XS.lsub X102.here hx rfl (hb hby d25_21) rfl ?_
    exact kt
  have zx : (((2 : Int32).toInt64) - ((2 : Int32).toInt64)) = (0 : Int64) := by decide
  have K105 : ∀ t, Steps p.tables e below (T102.setTop (mkF m 22 #[.val (.ref a1), .val (.int (2 : Int32)), .unset, .unset] [(.long (0 : Int64)), (.ref a1)])) t → Steps p.tables e below (s₁.setTop (entryFrame m #[(.ref a1), (.int (2 : Int32))] 4)) t := by
    rw [← zx]; exact K104
  obtain ⟨cq106, q106, q106'⟩ := Exa.cell B1.1
  obtain ⟨_, _, ⟨T106, L106, k106, n106⟩, -, X106, ⟨Lc106, hQ106, l106, y106, z106⟩, st106⟩ := X102.privateBack hx (y := (⟨"java/math/BigDecimal", "checkScale", "(J)I"⟩ : MethodName)) hown (mvT hZ (hw _ (List.mem_of_getElem? (i := 161) rfl))) (mvT hZ (hw _ (List.mem_of_getElem? (i := 162) rfl))) (mvT hZ (hw _ (List.mem_of_getElem? (i := 164) rfl))) (Cond.privateMethod_at (mvP hZ (hw _ (List.mem_of_getElem? (i := 163) rfl)) (args := #[]))) (mvT hZ (hw _ (List.mem_of_getElem? (i := 165) rfl))) (by decide) (backOf (W := 0) (rmCS l Z a0 hw [] a1 h0 n0 Z0) hZ (hw _ (List.mem_of_getElem? (i := 165) rfl)) (hw _ (List.mem_of_getElem? (i := 73) rfl)) (by decide) (by decide)) (g := (mkF m 22 #[.val (.ref a1), .val (.int (2 : Int32)), .unset, .unset] [(.long (0 : Int64)), (.ref a1)])) rfl (by rw [hml]; rfl) (Steps.refl _) (a := a1) (by rw [e102]; exact q106) q106' (argsL := [(.long (0 : Int64))]) (rest := []) (lenOf pd_12 rfl) rfl (by show 2 * 0 + _ ≤ _; exact Nat.le_of_eq rfl) (hb hby d25_22) (fun _ _ => ⟨rfl, e102, (by decide : 0 + 0 ≤ _), (by decide : 0 + 0 ≤ _)⟩)
  dsimp only [Pt.U, Pt.locs, Pt.cells, Pt.slots] at X106 l106 y106 z106 st106 hQ106
  subst l106 y106 z106
  obtain ⟨rfl, Nq106, e106⟩ := hQ106
  have N106 := Fr.app N0 Nq106
  have K107 : ∀ t, Steps p.tables e below (T106.setTop (mkF m 25 #[.val (.ref a1), .val (.int (2 : Int32)), .unset, .unset] [(.int (0 : Int32))])) t → Steps p.tables e below (s₁.setTop (entryFrame m #[(.ref a1), (.int (2 : Int32))] 4)) t := fun t kt => K105 t (st106.trans kt)
  have K108 : ∀ t, Steps p.tables e below (T106.setTop (mkF m 26 #[.val (.ref a1), .val (.int (2 : Int32)), .val (.int (0 : Int32)), .unset] [])) t → Steps p.tables e below (s₁.setTop (entryFrame m #[(.ref a1), (.int (2 : Int32))] 4)) t := by
    intro t kt
    refine K107 t ?_
    show Steps p.tables e below (T106.setTop (mkF m 25 #[.val (.ref a1), .val (.int (2 : Int32)), .unset, .unset] [(.int (0 : Int32))])) _
    refine XS.istoreN X106.here hx rfl (hb hby d25_25) rfl (l' := #[.val (.ref a1), .val (.int (2 : Int32)), .val (.int (0 : Int32)), .unset]) rfl ?_
    exact kt
  obtain ⟨T109, h109, X109, e109, E109, A109, D109, U109, st109⟩ := newO X106 hx hZ hown (hw _ (List.mem_of_getElem? (i := 75) rfl)) (hw _ (List.mem_of_getElem? (i := 76) rfl)) (hw _ (List.mem_of_getElem? (i := 73) rfl)) e106 (g := (mkF m 26 #[.val (.ref a1), .val (.int (2 : Int32)), .val (.int (0 : Int32)), .unset] [])) rfl (hb hby d25_26) (by decide) (by decide)
  obtain ⟨b109, g109⟩ : ∃ z, z = h0.size := ⟨_, rfl⟩
  rw [← g109] at A109 D109 U109 st109
  have ne_a1_b109 : a1 ≠ b109 := by rw [g109]; exact Nat.ne_of_lt B1.1.lt
  have sz110 : h0.size ≤ b109 := Nat.le_trans KK0.1 (Nat.le_of_eq g109.symm)
  have g_b109 : n0 ≤ b109 := Nat.le_trans Z0 (Nat.le_of_eq g109.symm)
  have f111 := Nat.le_trans Z0 E109.1
  have f112 := KK0.ext E109
  have f113 := B1.1.ext E109
  have f114 := B1.2.1.ext E109
  have f115 := B1.2.2.1.ext E109
  have f116 := B1.2.2.2.ext E109
  have F117 : Fld Z h109 b109 "java/math/BigDecimal" "scale" "I" (.int (0 : Int32)) := D109 (Or.inr (hw _ (List.mem_of_getElem? (i := 90) rfl))) (ty := .int) (by decide)
  have F118 : Fld Z h109 b109 "java/math/BigDecimal" "precision" "I" (.int (0 : Int32)) := D109 (Or.inl (hw _ (List.mem_of_getElem? (i := 92) rfl))) (ty := .int) (by decide)
  have F119 : Fld Z h109 b109 "java/math/BigDecimal" "intCompact" "J" (.long (0 : Int64)) := D109 (Or.inr (hw _ (List.mem_of_getElem? (i := 94) rfl))) (ty := .long) (by decide)
  have F120 : Fld Z h109 b109 "java/math/BigDecimal" "intVal" "Ljava/math/BigInteger;" .null := D109 (Or.inr (hw _ (List.mem_of_getElem? (i := 96) rfl))) (ty := (.object "java/math/BigInteger")) (by decide)
  have K121 : ∀ t, Steps p.tables e below (T109.setTop (mkF m 29 #[.val (.ref a1), .val (.int (2 : Int32)), .val (.int (0 : Int32)), .unset] [(.ref b109)])) t → Steps p.tables e below (s₁.setTop (entryFrame m #[(.ref a1), (.int (2 : Int32))] 4)) t := fun t kt => K108 t (st109 t kt)
  have K122 : ∀ t, Steps p.tables e below (T109.setTop (mkF m 31 #[.val (.ref a1), .val (.int (2 : Int32)), .val (.int (0 : Int32)), .unset] [(.ref a1), (.ref b109), (.ref b109)])) t → Steps p.tables e below (s₁.setTop (entryFrame m #[(.ref a1), (.int (2 : Int32))] 4)) t := by
    intro t kt
    refine K121 t ?_
    show Steps p.tables e below (T109.setTop (mkF m 29 #[.val (.ref a1), .val (.int (2 : Int32)), .val (.int (0 : Int32)), .unset] [(.ref b109)])) _
    refine XS.dup X109.here hx rfl (hb hby d25_29) rfl rfl ?_
    show Steps p.tables e below (T109.setTop (mkF m 30 #[.val (.ref a1), .val (.int (2 : Int32)), .val (.int (0 : Int32)), .unset] [(.ref b109), (.ref b109)])) _
    refine XS.aloadN X109.here hx rfl (hb hby d25_30) rfl rfl ?_
    exact kt
  obtain ⟨T123, X123, e123, st123⟩ := getF X109 hx hZ hown (host := "") (Or.inl (hw _ (List.mem_of_getElem? (i := 95) rfl))) Via.refl e109 f116 (g := (mkF m 31 #[.val (.ref a1), .val (.int (2 : Int32)), .val (.int (0 : Int32)), .unset] [(.ref a1), (.ref b109), (.ref b109)])) rfl rfl (hb hby d25_31)
  have K124 : ∀ t, Steps p.tables e below (T123.setTop (mkF m 34 #[.val (.ref a1), .val (.int (2 : Int32)), .val (.int (0 : Int32)), .unset] [iv, (.ref b109), (.ref b109)])) t → Steps p.tables e below (s₁.setTop (entryFrame m #[(.ref a1), (.int (2 : Int32))] 4)) t := fun t kt => K122 t (st123 t kt)
  have K125 : ∀ t, Steps p.tables e below (T123.setTop (mkF m 35 #[.val (.ref a1), .val (.int (2 : Int32)), .val (.int (0 : Int32)), .unset] [(.ref a1), iv, (.ref b109), (.ref b109)])) t → Steps p.tables e below (s₁.setTop (entryFrame m #[(.ref a1), (.int (2 : Int32))] 4)) t := by
    intro t kt
    refine K124 t ?_
    show Steps p.tables e below (T123.setTop (mkF m 34 #[.val (.ref a1), .val (.int (2 : Int32)), .val (.int (0 : Int32)), .unset] [iv, (.ref b109), (.ref b109)])) _
    refine XS.aloadN X123.here hx rfl (hb hby d25_34) rfl rfl ?_
    exact kt
  obtain ⟨T126, X126, e126, st126⟩ := getF X123 hx hZ hown (host := "") (Or.inl (hw _ (List.mem_of_getElem? (i := 93) rfl))) Via.refl e123 f114 (g := (mkF m 35 #[.val (.ref a1), .val (.int (2 : Int32)), .val (.int (0 : Int32)), .unset] [(.ref a1), iv, (.ref b109), (.ref b109)])) rfl rfl (hb hby d25_35)
  have K127 : ∀ t, Steps p.tables e below (T126.setTop (mkF m 38 #[.val (.ref a1), .val (.int (2 : Int32)), .val (.int (0 : Int32)), .unset] [(.long x), iv, (.ref b109), (.ref b109)])) t → Steps p.tables e below (s₁.setTop (entryFrame m #[(.ref a1), (.int (2 : Int32))] 4)) t := fun t kt => K125 t (st126 t kt)
  have K128 : ∀ t, Steps p.tables e below (T126.setTop (mkF m 40 #[.val (.ref a1), .val (.int (2 : Int32)), .val (.int (0 : Int32)), .unset] [(.int (0 : Int32)), (.int (0 : Int32)), (.long x), iv, (.ref b109), (.ref b109)])) t → Steps p.tables e below (s₁.setTop (entryFrame m #[(.ref a1), (.int (2 : Int32))] 4)) t := by
    intro t kt
    refine K127 t ?_
    show Steps p.tables e below (T126.setTop (mkF m 38 #[.val (.ref a1), .val (.int (2 : Int32)), .val (.int (0 : Int32)), .unset] [(.long x), iv, (.ref b109), (.ref b109)])) _
    refine XS.iloadN X126.here hx rfl (hb hby d25_38) rfl ?_
    show Steps p.tables e below (T126.setTop (mkF m 39 #[.val (.ref a1), .val (.int (2 : Int32)), .val (.int (0 : Int32)), .unset] [(.int (0 : Int32)), (.long x), iv, (.ref b109), (.ref b109)])) _
    refine XS.iconst X126.here hx rfl (hb hby d25_39) ?_
    exact kt
  obtain ⟨_, _, ⟨T129, L129, k129, n129⟩, -, X129, ⟨Lc129, hQ129, l129, y129, z129⟩, st129⟩ := X126.specialBack hx (y := (⟨"java/math/BigDecimal", "<init>", "(Ljava/math/BigInteger;JII)V"⟩ : MethodName)) rfl hown (mvT hZ (hw _ (List.mem_of_getElem? (i := 78) rfl))) (mvT hZ (hw _ (List.mem_of_getElem? (i := 79) rfl))) (mvT hZ (hw _ (List.mem_of_getElem? (i := 81) rfl))) (by decide) (backOf (W := 1) (rmBI l Z a0 hw [] b109 iv x (0 : Int32) (0 : Int32) h109 n0 f111 ri A109 F117 F118 F119 F120 g_b109) hZ (hw _ (List.mem_of_getElem? (i := 81) rfl)) (hw _ (List.mem_of_getElem? (i := 73) rfl)) (by decide) (by decide)) (g := (mkF m 40 #[.val (.ref a1), .val (.int (2 : Int32)), .val (.int (0 : Int32)), .unset] [(.int (0 : Int32)), (.int (0 : Int32)), (.long x), iv, (.ref b109), (.ref b109)])) rfl (by rw [hml]; rfl) (Steps.refl _) (a := b109) (argsL := [iv, (.long x), (.int (0 : Int32)), (.int (0 : Int32))]) (rest := [(.ref b109)]) (lenOf pd_4 rfl) rfl (by show 2 * 0 + _ ≤ _; exact Nat.le_of_eq rfl) (hb hby d25_40) (fun _ _ => ⟨rfl, e126, (by decide : 1 + 0 ≤ _), (by decide : 5 + 0 ≤ _)⟩)
  dsimp only [Pt.U, Pt.locs, Pt.cells, Pt.slots] at X129 l129 y129 z129 st129 hQ129
  subst l129 y129 z129
  obtain ⟨rfl, Nq129, Kq129, B129⟩ := hQ129
  have f130 := Nat.le_trans f111 Kq129.1
  have f131 := f112.trans Kq129 (allS (Or.inr sz110) all0)
  have f132 := f113.keep Kq129
  have f133 := f114.keep Kq129 (own_nin ne_a1_b109)
  have f134 := f115.keep Kq129 (own_nin ne_a1_b109)
  have f135 := f116.keep Kq129 (own_nin ne_a1_b109)
  have f136 := A109.keep Kq129
  have N129 := Fr.app N106 Nq129
  have K137 : ∀ t, Steps p.tables e below (T129.setTop (mkF m 43 #[.val (.ref a1), .val (.int (2 : Int32)), .val (.int (0 : Int32)), .unset] [(.ref b109)])) t → Steps p.tables e below (s₁.setTop (entryFrame m #[(.ref a1), (.int (2 : Int32))] 4)) t := fun t kt => K128 t (st129.trans kt)
  have K138 : ∀ t, Steps p.tables e below (T129.setTop (mkF m 45 #[.val (.ref a1), .val (.int (2 : Int32)), .val (.int (0 : Int32)), .val (.ref b109)] [(.ref b109)])) t → Steps p.tables e below (s₁.setTop (entryFrame m #[(.ref a1), (.int (2 : Int32))] 4)) t := by
    intro t kt
    refine K137 t ?_
    show Steps p.tables e below (T129.setTop (mkF m 43 #[.val (.ref a1), .val (.int (2 : Int32)), .val (.int (0 : Int32)), .unset] [(.ref b109)])) _
    refine XS.astoreN X129.here hx rfl (hb hby d25_43) rfl rfl (l' := #[.val (.ref a1), .val (.int (2 : Int32)), .val (.int (0 : Int32)), .val (.ref b109)]) rfl ?_
    show Steps p.tables e below (T129.setTop (mkF m 44 #[.val (.ref a1), .val (.int (2 : Int32)), .val (.int (0 : Int32)), .val (.ref b109)] [])) _
    refine XS.aloadN X129.here hx rfl (hb hby d25_44) rfl rfl ?_
    exact kt
  obtain ⟨T139, X139, e139, st139⟩ := getF X129 hx hZ hown (host := "") (Or.inl (hw _ (List.mem_of_getElem? (i := 89) rfl))) Via.refl rfl B129.2.2.1 (g := (mkF m 45 #[.val (.ref a1), .val (.int (2 : Int32)), .val (.int (0 : Int32)), .val (.ref b109)] [(.ref b109)])) rfl rfl (hb hby d25_45)
  have K140 : ∀ t, Steps p.tables e below (T139.setTop (mkF m 48 #[.val (.ref a1), .val (.int (2 : Int32)), .val (.int (0 : Int32)), .val (.ref b109)] [(.int (0 : Int32))])) t → Steps p.tables e below (s₁.setTop (entryFrame m #[(.ref a1), (.int (2 : Int32))] 4)) t := fun t kt => K138 t (st139 t kt)
  have K141 : ∀ t, Steps p.tables e below (T139.setTop (mkF m 62 #[.val (.ref a1), .val (.int (2 : Int32)), .val (.int (0 : Int32)), .val (.ref b109)] [(.ref b109)])) t → Steps p.tables e below (s₁.setTop (entryFrame m #[(.ref a1), (.int (2 : Int32))] 4)) t := by
    intro t kt
    refine K140 t ?_
    show Steps p.tables e below (T139.setTop (mkF m 48 #[.val (.ref a1), .val (.int (2 : Int32)), .val (.int (0 : Int32)), .val (.ref b109)] [(.int (0 : Int32))])) _
    refine XS.ifYes X139.here hx rfl (pc0 := 48) (pc' := 61) rfl (hb hby d25_48) rfl ((if0 _ _).trans (flt (by decide : ¬ ((0 : Int32) < (0 : Int32)))).2.1) (by decide) (by decide) ?_
    show Steps p.tables e below (T139.setTop (mkF m 61 #[.val (.ref a1), .val (.int (2 : Int32)), .val (.int (0 : Int32)), .val (.ref b109)] [])) _
    refine XS.aloadN X139.here hx rfl (hb hby d25_61) rfl rfl ?_
    exact kt
  obtain ⟨fs, hr, hrun, hended, hW, hsame⟩ := X139.leave (v := some (.ref b109)) (fun h => by rw [Bd.returns] at h; cases h) (hlocks := hlk)
  refine ⟨_, _, K141 _ ?_, hrun, hended, _, _, rfl, ?_, ⟨_, rfl⟩, hW, hsame.mono (by decide) (by decide)⟩
  · exact retOut X139 hx Bd.returns rfl (Or.inr (Or.inr (Or.inr (Or.inr ⟨rfl, rfl, rfl⟩)))) (hb hby d25_62) hr
  · show QrmMP Z x iv h0 n0 _ T139.heap _
    rw [e139]
    exact ⟨_, rfl, B129, N129, f131⟩
theorem ef_rmLV (m : MethodId) (x0 : Addr) : entryFrame m #[(.ref x0)] 2 = mkF m 0 #[.val (.ref x0), .unset] [] := by first | (simp [entryFrame, mkF, argsToLocals, Value.category]; done) | rfl
def QrmLV (x : Int64) (h0 : Heap) (n0 : Nat) (v : Option Value) (h : Heap) (L : List Loc) : Prop := v = some (.long x) ∧ Fr n0 L ∧ h = h0
set_option maxRecDepth 65536 in
set_option maxHeartbeats 40000000 in
theorem rmLV (l : Launch) (Z : State) (a0 : Array Value) (hw : ∀ d ∈ tables_1, d.before a0 Z = true) (ws : List Jvm.Cond) (a1 : Addr) (x : Int64) (iv : Value) (h0 : Heap) (n0 : Nat) (Z0 : n0 ≤ h0.size) (hq : ¬ x = (-9223372036854775808 : Int64)) (ri : iv.isRef = true) (B1 : BDp Z h0 a1 x (0 : Int32) iv) :
    MetFree l (⟨"java/math/BigDecimal", "longValueExact", "()J"⟩ : MethodName) (head1 (Jvm.Cond.code (⟨"java/math/BigDecimal", "longValueExact", "()J"⟩ : MethodName) jdk_17_method_84_code 2 (some .long) :: ws) ({ frames := 0, cells := 0, slots := 0, locals := 0 } : Room)) (fun a U => a = #[(.ref a1)] ∧ Z.Warmed39 U.vm ∧ U.heap = h0) (fun _ _ _ _ _ => True) (fun _ U o U' => ∃ v L, o = .returned v ∧ QrmLV x h0 n0 v U'.heap L ∧ FrameEnd U o U' L ({ frames := 0, cells := 0, slots := 0, locals := 0 } : Room).cells ({ frames := 0, cells := 0, slots := 0, locals := 0 } : Room).slots) := by
  refine MetFree.of_bodySF (plainFor_of_name pn_3) hisR ?_
  intro p e s m args below meth c s₁ Bd hml0 hP hK
  obtain ⟨rfl, hZ, hh⟩ := hP
  have hx := Bd.exec
  have hlk : meth.locks = false := BodyLoose.notSynchronized Bd
  have hby := Bd.bytes
  have hml : c.maxLocals = 2 := hml0
  have hown : s.vm.findClass "java/math/BigDecimal" = some m.cls := findClass_of_methodNamed Bd.named
  have hnm := (name_of_methodNamed Bd.named Bd.method).1
  have X0 : Stand p l e ({ frames := 0, cells := 0, slots := 0, locals := 0 } : Room) s m #[(.ref a1)] below meth c s₁ [] 0 0 := Stand.of_body Bd
  have e0 : s₁.heap = h0 := by rw [← hh, Bd.state]; rfl
  have N0 := Fr.nil n0
  have K0 : ∀ t, Steps p.tables e below (s₁.setTop (mkF m 0 #[.val (.ref a1), .unset] [])) t → Steps p.tables e below (s₁.setTop (entryFrame m #[(.ref a1)] 2)) t := fun t k => castTop (ef_rmLV m a1) k
  have KK0 : Keep h0 h0 [] := Keep.refl _ _
  
  have K101 : ∀ t, Steps p.tables e below (s₁.setTop (mkF m 1 #[.val (.ref a1), .unset] [(.ref a1)])) t → Steps p.tables e below (s₁.setTop (entryFrame m #[(.ref a1)] 2)) t := by
    intro t kt
    refine K0 t ?_
    show Steps p.tables e below (s₁.setTop (mkF m 0 #[.val (.ref a1), .unset] [])) _
    refine XS.aloadN X0.here hx rfl (hb hby d27_0) rfl rfl ?_
    exact kt
  obtain ⟨T102, X102, e102, st102⟩ := getF X0 hx hZ hown (host := "") (Or.inl (hw _ (List.mem_of_getElem? (i := 93) rfl))) Via.refl e0 B1.2.1 (g := (mkF m 1 #[.val (.ref a1), .unset] [(.ref a1)])) rfl rfl (hb hby d27_1)
  have K103 : ∀ t, Steps p.tables e below (T102.setTop (mkF m 4 #[.val (.ref a1), .unset] [(.long x)])) t → Steps p.tables e below (s₁.setTop (entryFrame m #[(.ref a1)] 2)) t := fun t kt => K101 t (st102 t kt)
  have K104 : ∀ t, Steps p.tables e below (T102.setTop (mkF m 12 #[.val (.ref a1), .unset] [(.ref a1)])) t → Steps p.tables e below (s₁.setTop (entryFrame m #[(.ref a1)] 2)) t := by
    intro t kt
    refine K103 t ?_
    show Steps p.tables e below (T102.setTop (mkF m 4 #[.val (.ref a1), .unset] [(.long x)])) _
    refine X102.ldc2Long hx hown (mvT hZ (hw _ (List.mem_of_getElem? (i := 77) rfl))) (g := (mkF m 4 #[.val (.ref a1), .unset] [(.long x)])) rfl (hb hby d27_4) _ ?_
    show Steps p.tables e below (T102.setTop (mkF m 7 #[.val (.ref a1), .unset] [(.long (-9223372036854775808 : Int64)), (.long x)])) _
    refine XS.lcmp X102.here hx rfl (hb hby d27_7) rfl ?_
    show Steps p.tables e below (T102.setTop (mkF m 8 #[.val (.ref a1), .unset] [(.int (lcmpW x (-9223372036854775808 : Int64)))])) _
    refine XS.ifNo X102.here hx rfl (hb hby d27_8) rfl ((if0 _ _).trans (feq ((fun z => hq ((lw_eq _ _).mp z)) : ¬ ((lcmpW x (-9223372036854775808 : Int64)) = (0 : Int32)))).1) ?_
    show Steps p.tables e below (T102.setTop (mkF m 11 #[.val (.ref a1), .unset] [])) _
    refine XS.aloadN X102.here hx rfl (hb hby d27_11) rfl rfl ?_
    exact kt
  obtain ⟨T105, X105, e105, st105⟩ := getF X102 hx hZ hown (host := "") (Or.inl (hw _ (List.mem_of_getElem? (i := 89) rfl))) Via.refl e102 B1.2.2.1 (g := (mkF m 12 #[.val (.ref a1), .unset] [(.ref a1)])) rfl rfl (hb hby d27_12)
  have K106 : ∀ t, Steps p.tables e below (T105.setTop (mkF m 15 #[.val (.ref a1), .unset] [(.int (0 : Int32))])) t → Steps p.tables e below (s₁.setTop (entryFrame m #[(.ref a1)] 2)) t := fun t kt => K104 t (st105 t kt)
  have K107 : ∀ t, Steps p.tables e below (T105.setTop (mkF m 19 #[.val (.ref a1), .unset] [(.ref a1)])) t → Steps p.tables e below (s₁.setTop (entryFrame m #[(.ref a1)] 2)) t := by
    intro t kt
    refine K106 t ?_
    show Steps p.tables e below (T105.setTop (mkF m 15 #[.val (.ref a1), .unset] [(.int (0 : Int32))])) _
    refine XS.ifNo X105.here hx rfl (hb hby d27_15) rfl ((if0 _ _).trans (teq (by decide : (0 : Int32) = (0 : Int32))).2) ?_
    show Steps p.tables e below (T105.setTop (mkF m 18 #[.val (.ref a1), .unset] [])) _
    refine XS.aloadN X105.here hx rfl (hb hby d27_18) rfl rfl ?_
    exact kt
  obtain ⟨T108, X108, e108, st108⟩ := getF X105 hx hZ hown (host := "") (Or.inl (hw _ (List.mem_of_getElem? (i := 93) rfl))) Via.refl e105 B1.2.1 (g := (mkF m 19 #[.val (.ref a1), .unset] [(.ref a1)])) rfl rfl (hb hby d27_19)
  have K109 : ∀ t, Steps p.tables e below (T108.setTop (mkF m 22 #[.val (.ref a1), .unset] [(.long x)])) t → Steps p.tables e below (s₁.setTop (entryFrame m #[(.ref a1)] 2)) t := fun t kt => K107 t (st108 t kt)
  obtain ⟨fs, hr, hrun, hended, hW, hsame⟩ := X108.leave (v := some (.long x)) (fun h => by rw [Bd.returns] at h; cases h) (hlocks := hlk)
  refine ⟨_, _, K109 _ ?_, hrun, hended, _, _, rfl, ?_, ⟨_, rfl⟩, hW, hsame.mono (by decide) (by decide)⟩
  · exact retOut X108 hx Bd.returns rfl (Or.inr (Or.inl ⟨rfl, rfl, _, rfl⟩)) (hb hby d27_22) hr
  · show QrmLV x h0 n0 _ T108.heap _
    rw [e108]
    exact ⟨rfl, N0, rfl⟩
theorem ef_rmIC (m : MethodId) (x0 : Addr) : entryFrame m #[(.ref x0)] 1 = mkF m 0 #[.val (.ref x0)] [] := by first | (simp [entryFrame, mkF, argsToLocals, Value.category]; done) | rfl
def QrmIC (x : Int64) (h0 : Heap) (n0 : Nat) (v : Option Value) (h : Heap) (L : List Loc) : Prop := v = some (.long x) ∧ Fr n0 L ∧ Keep h0 h []
set_option maxRecDepth 65536 in
set_option maxHeartbeats 40000000 in
theorem rmIC (l : Launch) (Z : State) (a0 : Array Value) (hw : ∀ d ∈ tables_1, d.before a0 Z = true) (ws : List Jvm.Cond) (a1 : Addr) (x : Int64) (iv : Value) (h0 : Heap) (n0 : Nat) (Z0 : n0 ≤ h0.size) (hq : ¬ x = (-9223372036854775808 : Int64)) (ri : iv.isRef = true) (B1 : BDp Z h0 a1 x (2 : Int32) iv) :
    MetFree l (⟨"com/example/tranchery/tranchery/Cents", "inCents", "(Ljava/math/BigDecimal;)J"⟩ : MethodName) (head1 (Jvm.Cond.code (⟨"com/example/tranchery/tranchery/Cents", "inCents", "(Ljava/math/BigDecimal;)J"⟩ : MethodName) prog_5_method_4_code 1 (some .long) :: ws) ({ frames := 4, cells := 1, slots := 5, locals := 57 } : Room)) (fun a U => a = #[(.ref a1)] ∧ Z.Warmed39 U.vm ∧ U.heap = h0) (fun _ _ _ _ _ => True) (fun _ U o U' => ∃ v L, o = .returned v ∧ QrmIC x h0 n0 v U'.heap L ∧ FrameEnd U o U' L ({ frames := 4, cells := 1, slots := 5, locals := 57 } : Room).cells ({ frames := 4, cells := 1, slots := 5, locals := 57 } : Room).slots) := by
  refine MetFree.of_bodySF (plainFor_of_name pn_2) hisR ?_
  intro p e s m args below meth c s₁ Bd hml0 hP hK
  obtain ⟨rfl, hZ, hh⟩ := hP
  have hx := Bd.exec
  have hlk : meth.locks = false := BodyLoose.notSynchronized Bd
  have hby := Bd.bytes
  have hml : c.maxLocals = 1 := hml0
  have hown : s.vm.findClass "com/example/tranchery/tranchery/Cents" = some m.cls := findClass_of_methodNamed Bd.named
  have hnm := (name_of_methodNamed Bd.named Bd.method).1
  have X0 : Stand p l e ({ frames := 4, cells := 1, slots := 5, locals := 57 } : Room) s m #[(.ref a1)] below meth c s₁ [] 0 0 := Stand.of_body Bd
  have e0 : s₁.heap = h0 := by rw [← hh, Bd.state]; rfl
  have N0 := Fr.nil n0
  have K0 : ∀ t, Steps p.tables e below (s₁.setTop (mkF m 0 #[.val (.ref a1)] [])) t → Steps p.tables e below (s₁.setTop (entryFrame m #[(.ref a1)] 1)) t := fun t k => castTop (ef_rmIC m a1) k
  have KK0 : Keep h0 h0 [] := Keep.refl _ _
  
  have K101 : ∀ t, Steps p.tables e below (s₁.setTop (mkF m 2 #[.val (.ref a1)] [(.int (2 : Int32)), (.ref a1)])) t → Steps p.tables e below (s₁.setTop (entryFrame m #[(.ref a1)] 1)) t := by
    intro t kt
    refine K0 t ?_
    show Steps p.tables e below (s₁.setTop (mkF m 0 #[.val (.ref a1)] [])) _
    refine XS.aloadN X0.here hx rfl (hb hby d24_0) rfl rfl ?_
    show Steps p.tables e below (s₁.setTop (mkF m 1 #[.val (.ref a1)] [(.ref a1)])) _
    refine XS.iconst X0.here hx rfl (hb hby d24_1) ?_
    exact kt
  obtain ⟨cq102, kq102, q102a, q102b, q102c⟩ := isOf hZ e0 B1.1
  obtain ⟨_, _, ⟨T102, L102, k102, n102⟩, -, X102, ⟨Lc102, hQ102, l102, y102, z102⟩, st102⟩ := X0.virtualBack hx (y := (⟨"java/math/BigDecimal", "movePointRight", "(I)Ljava/math/BigDecimal;"⟩ : MethodName)) (z := (⟨"java/math/BigDecimal", "movePointRight", "(I)Ljava/math/BigDecimal;"⟩ : MethodName)) hown (mvT hZ (hw _ (List.mem_of_getElem? (i := 156) rfl))) (mvT hZ (hw _ (List.mem_of_getElem? (i := 157) rfl))) (notFace_of_selects (args := #[]) (mvT hZ (hw _ (List.mem_of_getElem? (i := 159) rfl)))) (mvT hZ (hw _ (List.mem_of_getElem? (i := 159) rfl))) (mvT hZ (hw _ (List.mem_of_getElem? (i := 158) rfl))) (by decide) (backOf (W := 0) (rmMP l Z a0 hw [] a1 x iv h0 n0 Z0 ri B1) hZ (hw _ (List.mem_of_getElem? (i := 160) rfl)) (hw _ (List.mem_of_getElem? (i := 73) rfl)) (by decide) (by decide)) q102a q102c (g := (mkF m 2 #[.val (.ref a1)] [(.int (2 : Int32)), (.ref a1)])) rfl (by rw [hml]; rfl) (Steps.refl _) (argsL := [(.int (2 : Int32))]) (rest := []) (lenOf pd_3 rfl) rfl (by show 2 * 0 + _ ≤ _; exact Nat.le_of_eq rfl) (hb hby d24_2) (fun _ _ => ⟨rfl, e0, (by decide : 0 + 1 ≤ _), (by decide : 0 + 5 ≤ _)⟩)
  dsimp only [Pt.U, Pt.locs, Pt.cells, Pt.slots] at X102 l102 y102 z102 st102 hQ102
  subst l102 y102 z102
  obtain ⟨bb, rfl, BB, Nq102, Kq102⟩ := hQ102
  have f103 := Nat.le_trans Z0 Kq102.1
  have f104 := KK0.trans Kq102 all0
  have f105 := B1.1.keep Kq102
  have N102 := Fr.app N0 Nq102
  have K106 : ∀ t, Steps p.tables e below (T102.setTop (mkF m 5 #[.val (.ref a1)] [(.ref bb)])) t → Steps p.tables e below (s₁.setTop (entryFrame m #[(.ref a1)] 1)) t := fun t kt => K101 t (st102.trans kt)
  obtain ⟨cq107, kq107, q107a, q107b, q107c⟩ := isOf hZ rfl BB.1
  obtain ⟨_, _, ⟨T107, L107, k107, n107⟩, -, X107, ⟨Lc107, hQ107, l107, y107, z107⟩, st107⟩ := X102.virtualBack hx (y := (⟨"java/math/BigDecimal", "longValueExact", "()J"⟩ : MethodName)) (z := (⟨"java/math/BigDecimal", "longValueExact", "()J"⟩ : MethodName)) hown (mvT hZ (hw _ (List.mem_of_getElem? (i := 166) rfl))) (mvT hZ (hw _ (List.mem_of_getElem? (i := 167) rfl))) (notFace_of_selects (args := #[]) (mvT hZ (hw _ (List.mem_of_getElem? (i := 169) rfl)))) (mvT hZ (hw _ (List.mem_of_getElem? (i := 169) rfl))) (mvT hZ (hw _ (List.mem_of_getElem? (i := 168) rfl))) (by decide) (backOf (W := 0) (rmLV l Z a0 hw [] bb x iv T102.heap n0 f103 hq ri BB) hZ (hw _ (List.mem_of_getElem? (i := 170) rfl)) (hw _ (List.mem_of_getElem? (i := 73) rfl)) (by decide) (by decide)) q107a q107c (g := (mkF m 5 #[.val (.ref a1)] [(.ref bb)])) rfl (by rw [hml]; rfl) (Steps.refl _) (argsL := []) (rest := []) (lenOf pd_13 rfl) rfl (by show 2 * 0 + _ ≤ _; exact Nat.le_of_eq rfl) (hb hby d24_5) (fun _ _ => ⟨rfl, rfl, (by decide : 1 + 0 ≤ _), (by decide : 5 + 0 ≤ _)⟩)
  dsimp only [Pt.U, Pt.locs, Pt.cells, Pt.slots] at X107 l107 y107 z107 st107 hQ107
  subst l107 y107 z107
  obtain ⟨rfl, Nq107, e107⟩ := hQ107
  have N107 := Fr.app N102 Nq107
  have K108 : ∀ t, Steps p.tables e below (T107.setTop (mkF m 8 #[.val (.ref a1)] [(.long x)])) t → Steps p.tables e below (s₁.setTop (entryFrame m #[(.ref a1)] 1)) t := fun t kt => K106 t (st107.trans kt)
  obtain ⟨fs, hr, hrun, hended, hW, hsame⟩ := X107.leave (v := some (.long x)) (fun h => by rw [Bd.returns] at h; cases h) (hlocks := hlk)
  refine ⟨_, _, K108 _ ?_, hrun, hended, _, _, rfl, ?_, ⟨_, rfl⟩, hW, hsame.mono (by decide) (by decide)⟩
  · exact retOut X107 hx Bd.returns rfl (Or.inr (Or.inl ⟨rfl, rfl, _, rfl⟩)) (hb hby d24_8) hr
  · show QrmIC x h0 n0 _ T107.heap _
    rw [e107]
    exact ⟨rfl, N107, f104⟩
theorem ef_rmOF (m : MethodId) (x0 : Addr) : entryFrame m #[(.ref x0)] 3 = mkF m 0 #[.val (.ref x0), .unset, .unset] [] := by first | (simp [entryFrame, mkF, argsToLocals, Value.category]; done) | rfl
def QrmOF (Z : State) (x0 x1 x2 : Int64) (h0 : Heap) (n0 : Nat) (v : Option Value) (h : Heap) (L : List Loc) : Prop := ∃ (b t : Addr) (kk : ClassId), v = some (.ref b) ∧ (Exa Z h b "com/example/tranchery/tranchery/Cents" ∧ Fld Z h b "com/example/tranchery/tranchery/Cents" "amounts" "[J" (.ref t) ∧ Arv Z h t kk .long (3 : Int32) [(.long x0), (.long x1), (.long x2)] (.long (0 : Int64)) ∧ Exa Z h t "[J") ∧ Fr n0 L ∧ Keep h0 h []
set_option maxRecDepth 65536 in
set_option maxHeartbeats 40000000 in
theorem rmOF (l : Launch) (Z : State) (a0 : Array Value) (hw : ∀ d ∈ tables_1, d.before a0 Z = true) (ws : List Jvm.Cond) (a1 tq : Addr) (kk : ClassId) (el0 el1 el2 : Addr) (x0 x1 x2 : Int64) (iv0 iv1 iv2 : Value) (h0 : Heap) (n0 : Nat) (Z0 : n0 ≤ h0.size) (E1 : Exa Z h0 a1 "java/util/ArrayList") (F2 : Fld Z h0 a1 "java/util/ArrayList" "elementData" "[Ljava/lang/Object;" (.ref tq)) (F3 : Fld Z h0 a1 "java/util/ArrayList" "size" "I" (.int (3 : Int32))) (V1 : Arv Z h0 tq kk (.object "java/lang/Object") (3 : Int32) [(.ref el0), (.ref el1), (.ref el2)] .null) (hq0 : ¬ x0 = (-9223372036854775808 : Int64)) (ri0 : iv0.isRef = true) (B0 : BDp Z h0 el0 x0 (2 : Int32) iv0) (hq1 : ¬ x1 = (-9223372036854775808 : Int64)) (ri1 : iv1.isRef = true) (B1 : BDp Z h0 el1 x1 (2 : Int32) iv1) (hq2 : ¬ x2 = (-9223372036854775808 : Int64)) (ri2 : iv2.isRef = true) (B2 : BDp Z h0 el2 x2 (2 : Int32) iv2) :
    MetFree l (⟨"com/example/tranchery/tranchery/Cents", "of", "(Ljava/util/List;)Lcom/example/tranchery/tranchery/Cents;"⟩ : MethodName) (head1 (Jvm.Cond.code (⟨"com/example/tranchery/tranchery/Cents", "of", "(Ljava/util/List;)Lcom/example/tranchery/tranchery/Cents;"⟩ : MethodName) prog_5_method_2_code 3 (some (.object "com/example/tranchery/tranchery/Cents")) :: ws) ({ frames := 5, cells := 5, slots := 19, locals := 71 } : Room)) (fun a U => a = #[(.ref a1)] ∧ Z.Warmed39 U.vm ∧ U.heap = h0) (fun _ _ _ _ _ => True) (fun _ U o U' => ∃ v L, o = .returned v ∧ QrmOF Z x0 x1 x2 h0 n0 v U'.heap L ∧ FrameEnd U o U' L ({ frames := 5, cells := 5, slots := 19, locals := 71 } : Room).cells ({ frames := 5, cells := 5, slots := 19, locals := 71 } : Room).slots) := by
  refine MetFree.of_bodySF (plainFor_of_name pn_2) hisR ?_
  intro p e s m args below meth c s₁ Bd hml0 hP hK
  obtain ⟨rfl, hZ, hh⟩ := hP
  have hx := Bd.exec
  have hlk : meth.locks = false := BodyLoose.notSynchronized Bd
  have hby := Bd.bytes
  have hml : c.maxLocals = 3 := hml0
  have hown : s.vm.findClass "com/example/tranchery/tranchery/Cents" = some m.cls := findClass_of_methodNamed Bd.named
  have hnm := (name_of_methodNamed Bd.named Bd.method).1
  have X0 : Stand p l e ({ frames := 5, cells := 5, slots := 19, locals := 71 } : Room) s m #[(.ref a1)] below meth c s₁ [] 0 0 := Stand.of_body Bd
  have e0 : s₁.heap = h0 := by rw [← hh, Bd.state]; rfl
  have N0 := Fr.nil n0
  have K0 : ∀ t, Steps p.tables e below (s₁.setTop (mkF m 0 #[.val (.ref a1), .unset, .unset] [])) t → Steps p.tables e below (s₁.setTop (entryFrame m #[(.ref a1)] 3)) t := fun t k => castTop (ef_rmOF m a1) k
  have KK0 : Keep h0 h0 [] := Keep.refl _ _
  
  have K101 : ∀ t, Steps p.tables e below (s₁.setTop (mkF m 1 #[.val (.ref a1), .unset, .unset] [(.ref a1)])) t → Steps p.tables e below (s₁.setTop (entryFrame m #[(.ref a1)] 3)) t := by
    intro t kt
    refine K0 t ?_
    show Steps p.tables e below (s₁.setTop (mkF m 0 #[.val (.ref a1), .unset, .unset] [])) _
    refine XS.aloadN X0.here hx rfl (hb hby d18_0) rfl rfl ?_
    exact kt
  obtain ⟨cq102, kq102, q102a, q102b, q102c⟩ := isOf hZ e0 E1
  obtain ⟨_, _, ⟨T102, L102, k102, n102⟩, -, X102, ⟨Lc102, hQ102, l102, y102, z102⟩, st102⟩ := X0.interfaceBack hx (xi := (⟨"java/util/List", "size", "()I"⟩ : MethodName)) (y := (⟨"java/util/ArrayList", "size", "()I"⟩ : MethodName)) hown (mvT hZ (hw _ (List.mem_of_getElem? (i := 123) rfl))) (mvT hZ (hw _ (List.mem_of_getElem? (i := 124) rfl))) (mvT hZ (hw _ (List.mem_of_getElem? (i := 125) rfl))) (mvT hZ (hw _ (List.mem_of_getElem? (i := 126) rfl))) (mvT hZ (hw _ (List.mem_of_getElem? (i := 127) rfl))) (mvT hZ (hw _ (List.mem_of_getElem? (i := 128) rfl))) (mvT hZ (hw _ (List.mem_of_getElem? (i := 129) rfl))) (mvT hZ (hw _ (List.mem_of_getElem? (i := 104) rfl))) (by decide) (backOf (W := 0) (rmSZ l Z a0 hw [] a1 (3 : Int32) h0 n0 Z0 F3) hZ (hw _ (List.mem_of_getElem? (i := 130) rfl)) (hw _ (List.mem_of_getElem? (i := 43) rfl)) (by decide) (by decide)) q102a q102b q102c (g := (mkF m 1 #[.val (.ref a1), .unset, .unset] [(.ref a1)])) rfl (by rw [hml]; rfl) (Steps.refl _) (argsL := []) (rest := []) (lenOf pd_14 rfl) rfl (by show 2 * 0 + _ ≤ _; exact Nat.le_of_eq rfl) (hb hby d18_1) (fun _ _ => ⟨rfl, e0, (by decide : 0 + 0 ≤ _), (by decide : 0 + 0 ≤ _)⟩)
  dsimp only [Pt.U, Pt.locs, Pt.cells, Pt.slots] at X102 l102 y102 z102 st102 hQ102
  subst l102 y102 z102
  obtain ⟨rfl, Nq102, e102⟩ := hQ102
  have N102 := Fr.app N0 Nq102
  have K103 : ∀ t, Steps p.tables e below (T102.setTop (mkF m 6 #[.val (.ref a1), .unset, .unset] [(.int (3 : Int32))])) t → Steps p.tables e below (s₁.setTop (entryFrame m #[(.ref a1)] 3)) t := fun t kt => K101 t (st102.trans kt)
  obtain ⟨T104, h104, k104, X104, e104, E104, A104, B104, st104⟩ := newPE X102 hx hZ (hw _ (List.mem_of_getElem? (i := 6) rfl)) e102 (g := (mkF m 6 #[.val (.ref a1), .unset, .unset] [(.int (3 : Int32))])) rfl (hb hby d18_6) rfl (by decide) (cap := 3) (by decide) (by decide) (by decide) (by decide) (ad := "[J") (by decide)
  obtain ⟨b104, g104⟩ : ∃ z, z = h0.size := ⟨_, rfl⟩
  rw [← g104] at A104 B104 st104
  have ne_a1_b104 : a1 ≠ b104 := by rw [g104]; exact Nat.ne_of_lt E1.lt
  have ne_tq_b104 : tq ≠ b104 := by rw [g104]; exact Nat.ne_of_lt V1.lt
  have ne_el0_b104 : el0 ≠ b104 := by rw [g104]; exact Nat.ne_of_lt B0.lt
  have ne_el1_b104 : el1 ≠ b104 := by rw [g104]; exact Nat.ne_of_lt B1.lt
  have ne_el2_b104 : el2 ≠ b104 := by rw [g104]; exact Nat.ne_of_lt B2.lt
  have sz105 : h0.size ≤ b104 := Nat.le_trans KK0.1 (Nat.le_of_eq g104.symm)
  have g_b104 : n0 ≤ b104 := Nat.le_trans Z0 (Nat.le_of_eq g104.symm)
  have f106 := Nat.le_trans Z0 E104.1
  have f107 := KK0.ext E104
  have f108 := E1.ext E104
  have f109 := F2.ext E104
  have f110 := F3.ext E104
  have f111 := V1.ext E104
  have f112 := B0.ext E104
  have f113 := B1.ext E104
  have f114 := B2.ext E104
  have V104 : Arv Z h104 b104 k104 .long (3 : Int32) [(.long (0 : Int64)), (.long (0 : Int64)), (.long (0 : Int64))] (.long (0 : Int64)) := (Arv.new A104 (by decide)).pad (pad_rep [] (.long (0 : Int64)) 3)
  have K115 : ∀ t, Steps p.tables e below (T104.setTop (mkF m 8 #[.val (.ref a1), .unset, .unset] [(.ref b104)])) t → Steps p.tables e below (s₁.setTop (entryFrame m #[(.ref a1)] 3)) t := fun t kt => K103 t (st104 t kt)
  have K117 : ∀ t, Steps p.tables e below (T104.setTop (mkF m 13 #[.val (.ref a1), .val (.ref b104), .val (.int (0 : Int32))] [(.ref b104), (.int (0 : Int32))])) t → Steps p.tables e below (s₁.setTop (entryFrame m #[(.ref a1)] 3)) t := by
    intro t kt
    refine K115 t ?_
    show Steps p.tables e below (T104.setTop (mkF m 8 #[.val (.ref a1), .unset, .unset] [(.ref b104)])) _
    refine XS.astoreN X104.here hx rfl (hb hby d18_8) rfl rfl (l' := #[.val (.ref a1), .val (.ref b104), .unset]) rfl ?_
    show Steps p.tables e below (T104.setTop (mkF m 9 #[.val (.ref a1), .val (.ref b104), .unset] [])) _
    refine XS.iconst X104.here hx rfl (hb hby d18_9) ?_
    show Steps p.tables e below (T104.setTop (mkF m 10 #[.val (.ref a1), .val (.ref b104), .unset] [(.int (0 : Int32))])) _
    refine XS.istoreN X104.here hx rfl (hb hby d18_10) rfl (l' := #[.val (.ref a1), .val (.ref b104), .val (.int (0 : Int32))]) rfl ?_
    show Steps p.tables e below (T104.setTop (mkF m 11 #[.val (.ref a1), .val (.ref b104), .val (.int (0 : Int32))] [])) _
    refine XS.iloadN X104.here hx rfl (hb hby d18_11) rfl ?_
    show Steps p.tables e below (T104.setTop (mkF m 12 #[.val (.ref a1), .val (.ref b104), .val (.int (0 : Int32))] [(.int (0 : Int32))])) _
    refine XS.aloadN X104.here hx rfl (hb hby d18_12) rfl rfl ?_
    exact kt
  obtain ⟨cl116, Ar116, q116, S116, M116, H116, G116⟩ := id V104
  have K118 : ∀ t, Steps p.tables e below (T104.setTop (mkF m 21 #[.val (.ref a1), .val (.ref b104), .val (.int (0 : Int32))] [(.int (0 : Int32)), (.ref a1), (.int (0 : Int32)), (.ref b104)])) t → Steps p.tables e below (s₁.setTop (entryFrame m #[(.ref a1)] 3)) t := by
    intro t kt
    refine K117 t ?_
    show Steps p.tables e below (T104.setTop (mkF m 13 #[.val (.ref a1), .val (.ref b104), .val (.int (0 : Int32))] [(.ref b104), (.int (0 : Int32))])) _
    refine X104.arraylength hx (by rw [e104]; exact Ar116.1) (State.isArrayOf_alike hZ.alike Ar116.2.1) (g := (mkF m 13 #[.val (.ref a1), .val (.ref b104), .val (.int (0 : Int32))] [(.ref b104), (.int (0 : Int32))])) rfl rfl (hb hby d18_13) _ ?_
    rw [len_of S116 M116]
    show Steps p.tables e below (T104.setTop (mkF m 14 #[.val (.ref a1), .val (.ref b104), .val (.int (0 : Int32))] [(.int (3 : Int32)), (.int (0 : Int32))])) _
    refine XS.icmpNo X104.here hx rfl (hb hby d18_14) rfl (tlt (by decide : (0 : Int32) < (3 : Int32))).2.1 ?_
    show Steps p.tables e below (T104.setTop (mkF m 17 #[.val (.ref a1), .val (.ref b104), .val (.int (0 : Int32))] [])) _
    refine XS.aloadN X104.here hx rfl (hb hby d18_17) rfl rfl ?_
    show Steps p.tables e below (T104.setTop (mkF m 18 #[.val (.ref a1), .val (.ref b104), .val (.int (0 : Int32))] [(.ref b104)])) _
    refine XS.iloadN X104.here hx rfl (hb hby d18_18) rfl ?_
    show Steps p.tables e below (T104.setTop (mkF m 19 #[.val (.ref a1), .val (.ref b104), .val (.int (0 : Int32))] [(.int (0 : Int32)), (.ref b104)])) _
    refine XS.aloadN X104.here hx rfl (hb hby d18_19) rfl rfl ?_
    show Steps p.tables e below (T104.setTop (mkF m 20 #[.val (.ref a1), .val (.ref b104), .val (.int (0 : Int32))] [(.ref a1), (.int (0 : Int32)), (.ref b104)])) _
    refine XS.iloadN X104.here hx rfl (hb hby d18_20) rfl ?_
    exact kt
  obtain ⟨cq119, kq119, q119a, q119b, q119c⟩ := isOf hZ e104 f108
  obtain ⟨_, _, ⟨T119, L119, k119, n119⟩, -, X119, ⟨Lc119, hQ119, l119, y119, z119⟩, st119⟩ := X104.interfaceBack hx (xi := (⟨"java/util/List", "get", "(I)Ljava/lang/Object;"⟩ : MethodName)) (y := (⟨"java/util/ArrayList", "get", "(I)Ljava/lang/Object;"⟩ : MethodName)) hown (mvT hZ (hw _ (List.mem_of_getElem? (i := 131) rfl))) (mvT hZ (hw _ (List.mem_of_getElem? (i := 132) rfl))) (mvT hZ (hw _ (List.mem_of_getElem? (i := 133) rfl))) (mvT hZ (hw _ (List.mem_of_getElem? (i := 134) rfl))) (mvT hZ (hw _ (List.mem_of_getElem? (i := 135) rfl))) (mvT hZ (hw _ (List.mem_of_getElem? (i := 136) rfl))) (mvT hZ (hw _ (List.mem_of_getElem? (i := 137) rfl))) (mvT hZ (hw _ (List.mem_of_getElem? (i := 104) rfl))) (by decide) (backOf (W := 2) (rmGT0 l Z a0 hw [] a1 tq kk el0 el1 el2 h104 n0 f106 f108 f109 f110 f111) hZ (hw _ (List.mem_of_getElem? (i := 138) rfl)) (hw _ (List.mem_of_getElem? (i := 43) rfl)) (by decide) (by decide)) q119a q119b q119c (g := (mkF m 21 #[.val (.ref a1), .val (.ref b104), .val (.int (0 : Int32))] [(.int (0 : Int32)), (.ref a1), (.int (0 : Int32)), (.ref b104)])) rfl (by rw [hml]; rfl) (Steps.refl _) (argsL := [(.int (0 : Int32))]) (rest := [(.int (0 : Int32)), (.ref b104)]) (lenOf pd_11 rfl) rfl (by show 2 * 0 + _ ≤ _; exact Nat.le_of_eq rfl) (hb hby d18_21) (fun _ _ => ⟨rfl, e104, (by decide : 1 + 0 ≤ _), (by decide : 3 + 0 ≤ _)⟩)
  dsimp only [Pt.U, Pt.locs, Pt.cells, Pt.slots] at X119 l119 y119 z119 st119 hQ119
  subst l119 y119 z119
  obtain ⟨rfl, Nq119, e119⟩ := hQ119
  have N119 := Fr.app N102 Nq119
  have K120 : ∀ t, Steps p.tables e below (T119.setTop (mkF m 26 #[.val (.ref a1), .val (.ref b104), .val (.int (0 : Int32))] [(.ref el0), (.int (0 : Int32)), (.ref b104)])) t → Steps p.tables e below (s₁.setTop (entryFrame m #[(.ref a1)] 3)) t := fun t kt => K118 t (st119.trans kt)
  obtain ⟨T121, X121, e121, st121⟩ := castY X119 hx hZ hown (hw _ (List.mem_of_getElem? (i := 152) rfl)) e119 (Ins.self f112.1) (g := (mkF m 26 #[.val (.ref a1), .val (.ref b104), .val (.int (0 : Int32))] [(.ref el0), (.int (0 : Int32)), (.ref b104)])) rfl rfl (hb hby d18_26)
  have K122 : ∀ t, Steps p.tables e below (T121.setTop (mkF m 29 #[.val (.ref a1), .val (.ref b104), .val (.int (0 : Int32))] [(.ref el0), (.int (0 : Int32)), (.ref b104)])) t → Steps p.tables e below (s₁.setTop (entryFrame m #[(.ref a1)] 3)) t := fun t kt => K120 t (st121 t kt)
  obtain ⟨_, _, ⟨T123, L123, k123, n123⟩, -, X123, ⟨Lc123, hQ123, l123, y123, z123⟩, st123⟩ := Jvm.LawKit.callS X121 hx (y := (⟨"com/example/tranchery/tranchery/Cents", "inCents", "(Ljava/math/BigDecimal;)J"⟩ : MethodName)) hown (mvT hZ (hw _ (List.mem_of_getElem? (i := 153) rfl))) (mvT hZ (hw _ (List.mem_of_getElem? (i := 154) rfl))) (mvT hZ (hw _ (List.mem_of_getElem? (i := 2) rfl))) (mvT hZ (hw _ (List.mem_of_getElem? (i := 155) rfl))) (by decide) (backOf (W := 2) (rmIC l Z a0 hw [] el0 x0 iv0 h104 n0 f106 hq0 ri0 f112) hZ (hw _ (List.mem_of_getElem? (i := 155) rfl)) (hw _ (List.mem_of_getElem? (i := 2) rfl)) (by decide) (by decide)) (g := (mkF m 29 #[.val (.ref a1), .val (.ref b104), .val (.int (0 : Int32))] [(.ref el0), (.int (0 : Int32)), (.ref b104)])) rfl (by rw [hml]; rfl) (argsL := [(.ref el0)]) (rest := [(.int (0 : Int32)), (.ref b104)]) (lenOf pd_15 rfl) rfl (by show 2 * 0 + _ ≤ _; exact Nat.le_of_eq rfl) (hb hby d18_29) (fun _ _ => ⟨rfl, e121, (by decide : 1 + 1 ≤ _), (by decide : 3 + 5 ≤ _)⟩)
  dsimp only [Pt.U, Pt.locs, Pt.cells, Pt.slots] at X123 l123 y123 z123 st123 hQ123
  subst l123 y123 z123
  obtain ⟨rfl, Nq123, Kq123⟩ := hQ123
  have f124 := Nat.le_trans f106 Kq123.1
  have f125 := f107.trans Kq123 all0
  have f126 := f108.keep Kq123
  have f127 := f109.keep Kq123 own_nil
  have f128 := f110.keep Kq123 own_nil
  have f129 := f111.keep Kq123 own_nil
  have f130 := f112.keep Kq123 own_nil
  have f131 := f113.keep Kq123 own_nil
  have f132 := f114.keep Kq123 own_nil
  have f133 := V104.keep Kq123 own_nil
  have f134 := B104.keep Kq123
  have N123 := Fr.app N119 Nq123
  have K135 : ∀ t, Steps p.tables e below (T123.setTop (mkF m 32 #[.val (.ref a1), .val (.ref b104), .val (.int (0 : Int32))] [(.long x0), (.int (0 : Int32)), (.ref b104)])) t → Steps p.tables e below (s₁.setTop (entryFrame m #[(.ref a1)] 3)) t := fun t kt => K122 t (st123 t kt)
  obtain ⟨cl136, Ar136, q136, S136, M136, H136, G136⟩ := id f133
  have hin136 : ¬ ((0 : Int32) < 0 ∨ cl136.slots.size ≤ ((0 : Int32)).toNatClampNeg) := inb_of S136 ⟨by decide, by decide⟩
  obtain ⟨T136, h136, X136, e136, W136, st136⟩ := stJ X123 hx hZ rfl Ar136 (j := (0 : Int32)) hin136 (g := (mkF m 32 #[.val (.ref a1), .val (.ref b104), .val (.int (0 : Int32))] [(.long x0), (.int (0 : Int32)), (.ref b104)])) rfl rfl (hb hby d18_32)
  have f137 := Nat.le_trans f124 (Nat.le_of_eq W136.size.symm)
  have f138 := f125.wr W136 (Or.inr sz105)
  have f139 := f126.wr W136
  have f140 := f127.other W136 (Or.inl ne_a1_b104)
  have f141 := f128.other W136 (Or.inl ne_a1_b104)
  have f142 := f129.other W136 ne_tq_b104
  have f143 := f130.other W136 ne_el0_b104
  have f144 := f131.other W136 ne_el1_b104
  have f145 := f132.other W136 ne_el2_b104
  have f146 := f134.wr W136
  have V136 : Arv Z h136 b104 k104 .long (3 : Int32) [(.long x0), (.long (0 : Int64)), (.long (0 : Int64))] (.long (0 : Int64)) := Arv.set Ar136 q136 S136 M136 H136 G136 rfl W136 0 rfl (Nat.le_of_ble_eq_true rfl)
  have N136 := Fr.snoc X136 N123 g_b104
  have K147 : ∀ t, Steps p.tables e below (T136.setTop (mkF m 33 #[.val (.ref a1), .val (.ref b104), .val (.int (0 : Int32))] [])) t → Steps p.tables e below (s₁.setTop (entryFrame m #[(.ref a1)] 3)) t := fun t kt => K135 t (st136 t kt)
  have K149 : ∀ t, Steps p.tables e below (T136.setTop (mkF m 13 #[.val (.ref a1), .val (.ref b104), .val (.int ((0 : Int32) + (1 : Int32)))] [(.ref b104), (.int ((0 : Int32) + (1 : Int32)))])) t → Steps p.tables e below (s₁.setTop (entryFrame m #[(.ref a1)] 3)) t := by
    intro t kt
    refine K147 t ?_
    show Steps p.tables e below (T136.setTop (mkF m 33 #[.val (.ref a1), .val (.ref b104), .val (.int (0 : Int32))] [])) _
    refine XS.iinc X136.here hx rfl (hb hby d18_33) rfl (l' := #[.val (.ref a1), .val (.ref b104), .val (.int ((0 : Int32) + (1 : Int32)))]) rfl ?_
    show Steps p.tables e below (T136.setTop (mkF m 36 #[.val (.ref a1), .val (.ref b104), .val (.int ((0 : Int32) + (1 : Int32)))] [])) _
    refine XS.goto X136.here hx rfl (pc0 := 36) (pc' := 11) rfl (hb hby d18_36) (by decide) (by decide) ?_
    show Steps p.tables e below (T136.setTop (mkF m 11 #[.val (.ref a1), .val (.ref b104), .val (.int ((0 : Int32) + (1 : Int32)))] [])) _
    refine XS.iloadN X136.here hx rfl (hb hby d18_11) rfl ?_
    show Steps p.tables e below (T136.setTop (mkF m 12 #[.val (.ref a1), .val (.ref b104), .val (.int ((0 : Int32) + (1 : Int32)))] [(.int ((0 : Int32) + (1 : Int32)))])) _
    refine XS.aloadN X136.here hx rfl (hb hby d18_12) rfl rfl ?_
    exact kt
  obtain ⟨cl148, Ar148, q148, S148, M148, H148, G148⟩ := id V136
  have K150 : ∀ t, Steps p.tables e below (T136.setTop (mkF m 21 #[.val (.ref a1), .val (.ref b104), .val (.int ((0 : Int32) + (1 : Int32)))] [(.int ((0 : Int32) + (1 : Int32))), (.ref a1), (.int ((0 : Int32) + (1 : Int32))), (.ref b104)])) t → Steps p.tables e below (s₁.setTop (entryFrame m #[(.ref a1)] 3)) t := by
    intro t kt
    refine K149 t ?_
    show Steps p.tables e below (T136.setTop (mkF m 13 #[.val (.ref a1), .val (.ref b104), .val (.int ((0 : Int32) + (1 : Int32)))] [(.ref b104), (.int ((0 : Int32) + (1 : Int32)))])) _
    refine X136.arraylength hx (by rw [e136]; exact Ar148.1) (State.isArrayOf_alike hZ.alike Ar148.2.1) (g := (mkF m 13 #[.val (.ref a1), .val (.ref b104), .val (.int ((0 : Int32) + (1 : Int32)))] [(.ref b104), (.int ((0 : Int32) + (1 : Int32)))])) rfl rfl (hb hby d18_13) _ ?_
    rw [len_of S148 M148]
    show Steps p.tables e below (T136.setTop (mkF m 14 #[.val (.ref a1), .val (.ref b104), .val (.int ((0 : Int32) + (1 : Int32)))] [(.int (3 : Int32)), (.int ((0 : Int32) + (1 : Int32)))])) _
    refine XS.icmpNo X136.here hx rfl (hb hby d18_14) rfl (tlt (by decide : ((0 : Int32) + (1 : Int32)) < (3 : Int32))).2.1 ?_
    show Steps p.tables e below (T136.setTop (mkF m 17 #[.val (.ref a1), .val (.ref b104), .val (.int ((0 : Int32) + (1 : Int32)))] [])) _
    refine XS.aloadN X136.here hx rfl (hb hby d18_17) rfl rfl ?_
    show Steps p.tables e below (T136.setTop (mkF m 18 #[.val (.ref a1), .val (.ref b104), .val (.int ((0 : Int32) + (1 : Int32)))] [(.ref b104)])) _
    refine XS.iloadN X136.here hx rfl (hb hby d18_18) rfl ?_
    show Steps p.tables e below (T136.setTop (mkF m 19 #[.val (.ref a1), .val (.ref b104), .val (.int ((0 : Int32) + (1 : Int32)))] [(.int ((0 : Int32) + (1 : Int32))), (.ref b104)])) _
    refine XS.aloadN X136.here hx rfl (hb hby d18_19) rfl rfl ?_
    show Steps p.tables e below (T136.setTop (mkF m 20 #[.val (.ref a1), .val (.ref b104), .val (.int ((0 : Int32) + (1 : Int32)))] [(.ref a1), (.int ((0 : Int32) + (1 : Int32))), (.ref b104)])) _
    refine XS.iloadN X136.here hx rfl (hb hby d18_20) rfl ?_
    exact kt
  have ix1 : ((0 : Int32) + (1 : Int32)) = (1 : Int32) := by decide
  have K151 : ∀ t, Steps p.tables e below (T136.setTop (mkF m 21 #[.val (.ref a1), .val (.ref b104), .val (.int (1 : Int32))] [(.int (1 : Int32)), (.ref a1), (.int (1 : Int32)), (.ref b104)])) t → Steps p.tables e below (s₁.setTop (entryFrame m #[(.ref a1)] 3)) t := by
    rw [← ix1]; exact K150
  obtain ⟨cq152, kq152, q152a, q152b, q152c⟩ := isOf hZ e136 f139
  obtain ⟨_, _, ⟨T152, L152, k152, n152⟩, -, X152, ⟨Lc152, hQ152, l152, y152, z152⟩, st152⟩ := X136.interfaceBack hx (xi := (⟨"java/util/List", "get", "(I)Ljava/lang/Object;"⟩ : MethodName)) (y := (⟨"java/util/ArrayList", "get", "(I)Ljava/lang/Object;"⟩ : MethodName)) hown (mvT hZ (hw _ (List.mem_of_getElem? (i := 131) rfl))) (mvT hZ (hw _ (List.mem_of_getElem? (i := 132) rfl))) (mvT hZ (hw _ (List.mem_of_getElem? (i := 133) rfl))) (mvT hZ (hw _ (List.mem_of_getElem? (i := 134) rfl))) (mvT hZ (hw _ (List.mem_of_getElem? (i := 135) rfl))) (mvT hZ (hw _ (List.mem_of_getElem? (i := 136) rfl))) (mvT hZ (hw _ (List.mem_of_getElem? (i := 137) rfl))) (mvT hZ (hw _ (List.mem_of_getElem? (i := 104) rfl))) (by decide) (backOf (W := 2) (rmGT1 l Z a0 hw [] a1 tq kk el0 el1 el2 h136 n0 f137 f139 f140 f141 f142) hZ (hw _ (List.mem_of_getElem? (i := 138) rfl)) (hw _ (List.mem_of_getElem? (i := 43) rfl)) (by decide) (by decide)) q152a q152b q152c (g := (mkF m 21 #[.val (.ref a1), .val (.ref b104), .val (.int (1 : Int32))] [(.int (1 : Int32)), (.ref a1), (.int (1 : Int32)), (.ref b104)])) rfl (by rw [hml]; rfl) (Steps.refl _) (argsL := [(.int (1 : Int32))]) (rest := [(.int (1 : Int32)), (.ref b104)]) (lenOf pd_11 rfl) rfl (by show 2 * 0 + _ ≤ _; exact Nat.le_of_eq rfl) (hb hby d18_21) (fun _ _ => ⟨rfl, e136, (by decide : 2 + 0 ≤ _), (by decide : 8 + 0 ≤ _)⟩)
  dsimp only [Pt.U, Pt.locs, Pt.cells, Pt.slots] at X152 l152 y152 z152 st152 hQ152
  subst l152 y152 z152
  obtain ⟨rfl, Nq152, e152⟩ := hQ152
  have N152 := Fr.app N136 Nq152
  have K153 : ∀ t, Steps p.tables e below (T152.setTop (mkF m 26 #[.val (.ref a1), .val (.ref b104), .val (.int (1 : Int32))] [(.ref el1), (.int (1 : Int32)), (.ref b104)])) t → Steps p.tables e below (s₁.setTop (entryFrame m #[(.ref a1)] 3)) t := fun t kt => K151 t (st152.trans kt)
  obtain ⟨T154, X154, e154, st154⟩ := castY X152 hx hZ hown (hw _ (List.mem_of_getElem? (i := 152) rfl)) e152 (Ins.self f144.1) (g := (mkF m 26 #[.val (.ref a1), .val (.ref b104), .val (.int (1 : Int32))] [(.ref el1), (.int (1 : Int32)), (.ref b104)])) rfl rfl (hb hby d18_26)
  have K155 : ∀ t, Steps p.tables e below (T154.setTop (mkF m 29 #[.val (.ref a1), .val (.ref b104), .val (.int (1 : Int32))] [(.ref el1), (.int (1 : Int32)), (.ref b104)])) t → Steps p.tables e below (s₁.setTop (entryFrame m #[(.ref a1)] 3)) t := fun t kt => K153 t (st154 t kt)
  obtain ⟨_, _, ⟨T156, L156, k156, n156⟩, -, X156, ⟨Lc156, hQ156, l156, y156, z156⟩, st156⟩ := Jvm.LawKit.callS X154 hx (y := (⟨"com/example/tranchery/tranchery/Cents", "inCents", "(Ljava/math/BigDecimal;)J"⟩ : MethodName)) hown (mvT hZ (hw _ (List.mem_of_getElem? (i := 153) rfl))) (mvT hZ (hw _ (List.mem_of_getElem? (i := 154) rfl))) (mvT hZ (hw _ (List.mem_of_getElem? (i := 2) rfl))) (mvT hZ (hw _ (List.mem_of_getElem? (i := 155) rfl))) (by decide) (backOf (W := 2) (rmIC l Z a0 hw [] el1 x1 iv1 h136 n0 f137 hq1 ri1 f144) hZ (hw _ (List.mem_of_getElem? (i := 155) rfl)) (hw _ (List.mem_of_getElem? (i := 2) rfl)) (by decide) (by decide)) (g := (mkF m 29 #[.val (.ref a1), .val (.ref b104), .val (.int (1 : Int32))] [(.ref el1), (.int (1 : Int32)), (.ref b104)])) rfl (by rw [hml]; rfl) (argsL := [(.ref el1)]) (rest := [(.int (1 : Int32)), (.ref b104)]) (lenOf pd_15 rfl) rfl (by show 2 * 0 + _ ≤ _; exact Nat.le_of_eq rfl) (hb hby d18_29) (fun _ _ => ⟨rfl, e154, (by decide : 2 + 1 ≤ _), (by decide : 8 + 5 ≤ _)⟩)
  dsimp only [Pt.U, Pt.locs, Pt.cells, Pt.slots] at X156 l156 y156 z156 st156 hQ156
  subst l156 y156 z156
  obtain ⟨rfl, Nq156, Kq156⟩ := hQ156
  have f157 := Nat.le_trans f137 Kq156.1
  have f158 := f138.trans Kq156 all0
  have f159 := f139.keep Kq156
  have f160 := f140.keep Kq156 own_nil
  have f161 := f141.keep Kq156 own_nil
  have f162 := f142.keep Kq156 own_nil
  have f163 := f143.keep Kq156 own_nil
  have f164 := f144.keep Kq156 own_nil
  have f165 := f145.keep Kq156 own_nil
  have f166 := V136.keep Kq156 own_nil
  have f167 := f146.keep Kq156
  have N156 := Fr.app N152 Nq156
  have K168 : ∀ t, Steps p.tables e below (T156.setTop (mkF m 32 #[.val (.ref a1), .val (.ref b104), .val (.int (1 : Int32))] [(.long x1), (.int (1 : Int32)), (.ref b104)])) t → Steps p.tables e below (s₁.setTop (entryFrame m #[(.ref a1)] 3)) t := fun t kt => K155 t (st156 t kt)
  obtain ⟨cl169, Ar169, q169, S169, M169, H169, G169⟩ := id f166
  have hin169 : ¬ ((1 : Int32) < 0 ∨ cl169.slots.size ≤ ((1 : Int32)).toNatClampNeg) := inb_of S169 ⟨by decide, by decide⟩
  obtain ⟨T169, h169, X169, e169, W169, st169⟩ := stJ X156 hx hZ rfl Ar169 (j := (1 : Int32)) hin169 (g := (mkF m 32 #[.val (.ref a1), .val (.ref b104), .val (.int (1 : Int32))] [(.long x1), (.int (1 : Int32)), (.ref b104)])) rfl rfl (hb hby d18_32)
  have f170 := Nat.le_trans f157 (Nat.le_of_eq W169.size.symm)
  have f171 := f158.wr W169 (Or.inr sz105)
  have f172 := f159.wr W169
  have f173 := f160.other W169 (Or.inl ne_a1_b104)
  have f174 := f161.other W169 (Or.inl ne_a1_b104)
  have f175 := f162.other W169 ne_tq_b104
  have f176 := f163.other W169 ne_el0_b104
  have f177 := f164.other W169 ne_el1_b104
  have f178 := f165.other W169 ne_el2_b104
  have f179 := f167.wr W169
  have V169 : Arv Z h169 b104 k104 .long (3 : Int32) [(.long x0), (.long x1), (.long (0 : Int64))] (.long (0 : Int64)) := Arv.set Ar169 q169 S169 M169 H169 G169 rfl W169 1 rfl (Nat.le_of_ble_eq_true rfl)
  have N169 := Fr.snoc X169 N156 g_b104
  have K180 : ∀ t, Steps p.tables e below (T169.setTop (mkF m 33 #[.val (.ref a1), .val (.ref b104), .val (.int (1 : Int32))] [])) t → Steps p.tables e below (s₁.setTop (entryFrame m #[(.ref a1)] 3)) t := fun t kt => K168 t (st169 t kt)
  have K182 : ∀ t, Steps p.tables e below (T169.setTop (mkF m 13 #[.val (.ref a1), .val (.ref b104), .val (.int ((1 : Int32) + (1 : Int32)))] [(.ref b104), (.int ((1 : Int32) + (1 : Int32)))])) t → Steps p.tables e below (s₁.setTop (entryFrame m #[(.ref a1)] 3)) t := by
    intro t kt
    refine K180 t ?_
    show Steps p.tables e below (T169.setTop (mkF m 33 #[.val (.ref a1), .val (.ref b104), .val (.int (1 : Int32))] [])) _
    refine XS.iinc X169.here hx rfl (hb hby d18_33) rfl (l' := #[.val (.ref a1), .val (.ref b104), .val (.int ((1 : Int32) + (1 : Int32)))]) rfl ?_
    show Steps p.tables e below (T169.setTop (mkF m 36 #[.val (.ref a1), .val (.ref b104), .val (.int ((1 : Int32) + (1 : Int32)))] [])) _
    refine XS.goto X169.here hx rfl (pc0 := 36) (pc' := 11) rfl (hb hby d18_36) (by decide) (by decide) ?_
    show Steps p.tables e below (T169.setTop (mkF m 11 #[.val (.ref a1), .val (.ref b104), .val (.int ((1 : Int32) + (1 : Int32)))] [])) _
    refine XS.iloadN X169.here hx rfl (hb hby d18_11) rfl ?_
    show Steps p.tables e below (T169.setTop (mkF m 12 #[.val (.ref a1), .val (.ref b104), .val (.int ((1 : Int32) + (1 : Int32)))] [(.int ((1 : Int32) + (1 : Int32)))])) _
    refine XS.aloadN X169.here hx rfl (hb hby d18_12) rfl rfl ?_
    exact kt
  obtain ⟨cl181, Ar181, q181, S181, M181, H181, G181⟩ := id V169
  have K183 : ∀ t, Steps p.tables e below (T169.setTop (mkF m 21 #[.val (.ref a1), .val (.ref b104), .val (.int ((1 : Int32) + (1 : Int32)))] [(.int ((1 : Int32) + (1 : Int32))), (.ref a1), (.int ((1 : Int32) + (1 : Int32))), (.ref b104)])) t → Steps p.tables e below (s₁.setTop (entryFrame m #[(.ref a1)] 3)) t := by
    intro t kt
    refine K182 t ?_
    show Steps p.tables e below (T169.setTop (mkF m 13 #[.val (.ref a1), .val (.ref b104), .val (.int ((1 : Int32) + (1 : Int32)))] [(.ref b104), (.int ((1 : Int32) + (1 : Int32)))])) _
    refine X169.arraylength hx (by rw [e169]; exact Ar181.1) (State.isArrayOf_alike hZ.alike Ar181.2.1) (g := (mkF m 13 #[.val (.ref a1), .val (.ref b104), .val (.int ((1 : Int32) + (1 : Int32)))] [(.ref b104), (.int ((1 : Int32) + (1 : Int32)))])) rfl rfl (hb hby d18_13) _ ?_
    rw [len_of S181 M181]
    show Steps p.tables e below (T169.setTop (mkF m 14 #[.val (.ref a1), .val (.ref b104), .val (.int ((1 : Int32) + (1 : Int32)))] [(.int (3 : Int32)), (.int ((1 : Int32) + (1 : Int32)))])) _
    refine XS.icmpNo X169.here hx rfl (hb hby d18_14) rfl (tlt (by decide : ((1 : Int32) + (1 : Int32)) < (3 : Int32))).2.1 ?_
    show Steps p.tables e below (T169.setTop (mkF m 17 #[.val (.ref a1), .val (.ref b104), .val (.int ((1 : Int32) + (1 : Int32)))] [])) _
    refine XS.aloadN X169.here hx rfl (hb hby d18_17) rfl rfl ?_
    show Steps p.tables e below (T169.setTop (mkF m 18 #[.val (.ref a1), .val (.ref b104), .val (.int ((1 : Int32) + (1 : Int32)))] [(.ref b104)])) _
    refine XS.iloadN X169.here hx rfl (hb hby d18_18) rfl ?_
    show Steps p.tables e below (T169.setTop (mkF m 19 #[.val (.ref a1), .val (.ref b104), .val (.int ((1 : Int32) + (1 : Int32)))] [(.int ((1 : Int32) + (1 : Int32))), (.ref b104)])) _
    refine XS.aloadN X169.here hx rfl (hb hby d18_19) rfl rfl ?_
    show Steps p.tables e below (T169.setTop (mkF m 20 #[.val (.ref a1), .val (.ref b104), .val (.int ((1 : Int32) + (1 : Int32)))] [(.ref a1), (.int ((1 : Int32) + (1 : Int32))), (.ref b104)])) _
    refine XS.iloadN X169.here hx rfl (hb hby d18_20) rfl ?_
    exact kt
  have ix2 : ((1 : Int32) + (1 : Int32)) = (2 : Int32) := by decide
  have K184 : ∀ t, Steps p.tables e below (T169.setTop (mkF m 21 #[.val (.ref a1), .val (.ref b104), .val (.int (2 : Int32))] [(.int (2 : Int32)), (.ref a1), (.int (2 : Int32)), (.ref b104)])) t → Steps p.tables e below (s₁.setTop (entryFrame m #[(.ref a1)] 3)) t := by
    rw [← ix2]; exact K183
  obtain ⟨cq185, kq185, q185a, q185b, q185c⟩ := isOf hZ e169 f172
  obtain ⟨_, _, ⟨T185, L185, k185, n185⟩, -, X185, ⟨Lc185, hQ185, l185, y185, z185⟩, st185⟩ := X169.interfaceBack hx (xi := (⟨"java/util/List", "get", "(I)Ljava/lang/Object;"⟩ : MethodName)) (y := (⟨"java/util/ArrayList", "get", "(I)Ljava/lang/Object;"⟩ : MethodName)) hown (mvT hZ (hw _ (List.mem_of_getElem? (i := 131) rfl))) (mvT hZ (hw _ (List.mem_of_getElem? (i := 132) rfl))) (mvT hZ (hw _ (List.mem_of_getElem? (i := 133) rfl))) (mvT hZ (hw _ (List.mem_of_getElem? (i := 134) rfl))) (mvT hZ (hw _ (List.mem_of_getElem? (i := 135) rfl))) (mvT hZ (hw _ (List.mem_of_getElem? (i := 136) rfl))) (mvT hZ (hw _ (List.mem_of_getElem? (i := 137) rfl))) (mvT hZ (hw _ (List.mem_of_getElem? (i := 104) rfl))) (by decide) (backOf (W := 2) (rmGT2 l Z a0 hw [] a1 tq kk el0 el1 el2 h169 n0 f170 f172 f173 f174 f175) hZ (hw _ (List.mem_of_getElem? (i := 138) rfl)) (hw _ (List.mem_of_getElem? (i := 43) rfl)) (by decide) (by decide)) q185a q185b q185c (g := (mkF m 21 #[.val (.ref a1), .val (.ref b104), .val (.int (2 : Int32))] [(.int (2 : Int32)), (.ref a1), (.int (2 : Int32)), (.ref b104)])) rfl (by rw [hml]; rfl) (Steps.refl _) (argsL := [(.int (2 : Int32))]) (rest := [(.int (2 : Int32)), (.ref b104)]) (lenOf pd_11 rfl) rfl (by show 2 * 0 + _ ≤ _; exact Nat.le_of_eq rfl) (hb hby d18_21) (fun _ _ => ⟨rfl, e169, (by decide : 3 + 0 ≤ _), (by decide : 13 + 0 ≤ _)⟩)
  dsimp only [Pt.U, Pt.locs, Pt.cells, Pt.slots] at X185 l185 y185 z185 st185 hQ185
  subst l185 y185 z185
  obtain ⟨rfl, Nq185, e185⟩ := hQ185
  have N185 := Fr.app N169 Nq185
  have K186 : ∀ t, Steps p.tables e below (T185.setTop (mkF m 26 #[.val (.ref a1), .val (.ref b104), .val (.int (2 : Int32))] [(.ref el2), (.int (2 : Int32)), (.ref b104)])) t → Steps p.tables e below (s₁.setTop (entryFrame m #[(.ref a1)] 3)) t := fun t kt => K184 t (st185.trans kt)
  obtain ⟨T187, X187, e187, st187⟩ := castY X185 hx hZ hown (hw _ (List.mem_of_getElem? (i := 152) rfl)) e185 (Ins.self f178.1) (g := (mkF m 26 #[.val (.ref a1), .val (.ref b104), .val (.int (2 : Int32))] [(.ref el2), (.int (2 : Int32)), (.ref b104)])) rfl rfl (hb hby d18_26)
  have K188 : ∀ t, Steps p.tables e below (T187.setTop (mkF m 29 #[.val (.ref a1), .val (.ref b104), .val (.int (2 : Int32))] [(.ref el2), (.int (2 : Int32)), (.ref b104)])) t → Steps p.tables e below (s₁.setTop (entryFrame m #[(.ref a1)] 3)) t := fun t kt => K186 t (st187 t kt)
  obtain ⟨_, _, ⟨T189, L189, k189, n189⟩, -, X189, ⟨Lc189, hQ189, l189, y189, z189⟩, st189⟩ := Jvm.LawKit.callS X187 hx (y := (⟨"com/example/tranchery/tranchery/Cents", "inCents", "(Ljava/math/BigDecimal;)J"⟩ : MethodName)) hown (mvT hZ (hw _ (List.mem_of_getElem? (i := 153) rfl))) (mvT hZ (hw _ (List.mem_of_getElem? (i := 154) rfl))) (mvT hZ (hw _ (List.mem_of_getElem? (i := 2) rfl))) (mvT hZ (hw _ (List.mem_of_getElem? (i := 155) rfl))) (by decide) (backOf (W := 2) (rmIC l Z a0 hw [] el2 x2 iv2 h169 n0 f170 hq2 ri2 f178) hZ (hw _ (List.mem_of_getElem? (i := 155) rfl)) (hw _ (List.mem_of_getElem? (i := 2) rfl)) (by decide) (by decide)) (g := (mkF m 29 #[.val (.ref a1), .val (.ref b104), .val (.int (2 : Int32))] [(.ref el2), (.int (2 : Int32)), (.ref b104)])) rfl (by rw [hml]; rfl) (argsL := [(.ref el2)]) (rest := [(.int (2 : Int32)), (.ref b104)]) (lenOf pd_15 rfl) rfl (by show 2 * 0 + _ ≤ _; exact Nat.le_of_eq rfl) (hb hby d18_29) (fun _ _ => ⟨rfl, e187, (by decide : 3 + 1 ≤ _), (by decide : 13 + 5 ≤ _)⟩)
  dsimp only [Pt.U, Pt.locs, Pt.cells, Pt.slots] at X189 l189 y189 z189 st189 hQ189
  subst l189 y189 z189
  obtain ⟨rfl, Nq189, Kq189⟩ := hQ189
  have f190 := Nat.le_trans f170 Kq189.1
  have f191 := f171.trans Kq189 all0
  have f192 := f172.keep Kq189
  have f193 := f173.keep Kq189 own_nil
  have f194 := f174.keep Kq189 own_nil
  have f195 := f175.keep Kq189 own_nil
  have f196 := f176.keep Kq189 own_nil
  have f197 := f177.keep Kq189 own_nil
  have f198 := f178.keep Kq189 own_nil
  have f199 := V169.keep Kq189 own_nil
  have f200 := f179.keep Kq189
  have N189 := Fr.app N185 Nq189
  have K201 : ∀ t, Steps p.tables e below (T189.setTop (mkF m 32 #[.val (.ref a1), .val (.ref b104), .val (.int (2 : Int32))] [(.long x2), (.int (2 : Int32)), (.ref b104)])) t → Steps p.tables e below (s₁.setTop (entryFrame m #[(.ref a1)] 3)) t := fun t kt => K188 t (st189 t kt)
  obtain ⟨cl202, Ar202, q202, S202, M202, H202, G202⟩ := id f199
  have hin202 : ¬ ((2 : Int32) < 0 ∨ cl202.slots.size ≤ ((2 : Int32)).toNatClampNeg) := inb_of S202 ⟨by decide, by decide⟩
  obtain ⟨T202, h202, X202, e202, W202, st202⟩ := stJ X189 hx hZ rfl Ar202 (j := (2 : Int32)) hin202 (g := (mkF m 32 #[.val (.ref a1), .val (.ref b104), .val (.int (2 : Int32))] [(.long x2), (.int (2 : Int32)), (.ref b104)])) rfl rfl (hb hby d18_32)
  have f203 := Nat.le_trans f190 (Nat.le_of_eq W202.size.symm)
  have f204 := f191.wr W202 (Or.inr sz105)
  have f205 := f192.wr W202
  have f206 := f193.other W202 (Or.inl ne_a1_b104)
  have f207 := f194.other W202 (Or.inl ne_a1_b104)
  have f208 := f195.other W202 ne_tq_b104
  have f209 := f196.other W202 ne_el0_b104
  have f210 := f197.other W202 ne_el1_b104
  have f211 := f198.other W202 ne_el2_b104
  have f212 := f200.wr W202
  have V202 : Arv Z h202 b104 k104 .long (3 : Int32) [(.long x0), (.long x1), (.long x2)] (.long (0 : Int64)) := Arv.set Ar202 q202 S202 M202 H202 G202 rfl W202 2 rfl (Nat.le_of_ble_eq_true rfl)
  have N202 := Fr.snoc X202 N189 g_b104
  have K213 : ∀ t, Steps p.tables e below (T202.setTop (mkF m 33 #[.val (.ref a1), .val (.ref b104), .val (.int (2 : Int32))] [])) t → Steps p.tables e below (s₁.setTop (entryFrame m #[(.ref a1)] 3)) t := fun t kt => K201 t (st202 t kt)
  have K215 : ∀ t, Steps p.tables e below (T202.setTop (mkF m 13 #[.val (.ref a1), .val (.ref b104), .val (.int ((2 : Int32) + (1 : Int32)))] [(.ref b104), (.int ((2 : Int32) + (1 : Int32)))])) t → Steps p.tables e below (s₁.setTop (entryFrame m #[(.ref a1)] 3)) t := by
    intro t kt
    refine K213 t ?_
    show Steps p.tables e below (T202.setTop (mkF m 33 #[.val (.ref a1), .val (.ref b104), .val (.int (2 : Int32))] [])) _
    refine XS.iinc X202.here hx rfl (hb hby d18_33) rfl (l' := #[.val (.ref a1), .val (.ref b104), .val (.int ((2 : Int32) + (1 : Int32)))]) rfl ?_
    show Steps p.tables e below (T202.setTop (mkF m 36 #[.val (.ref a1), .val (.ref b104), .val (.int ((2 : Int32) + (1 : Int32)))] [])) _
    refine XS.goto X202.here hx rfl (pc0 := 36) (pc' := 11) rfl (hb hby d18_36) (by decide) (by decide) ?_
    show Steps p.tables e below (T202.setTop (mkF m 11 #[.val (.ref a1), .val (.ref b104), .val (.int ((2 : Int32) + (1 : Int32)))] [])) _
    refine XS.iloadN X202.here hx rfl (hb hby d18_11) rfl ?_
    show Steps p.tables e below (T202.setTop (mkF m 12 #[.val (.ref a1), .val (.ref b104), .val (.int ((2 : Int32) + (1 : Int32)))] [(.int ((2 : Int32) + (1 : Int32)))])) _
    refine XS.aloadN X202.here hx rfl (hb hby d18_12) rfl rfl ?_
    exact kt
  obtain ⟨cl214, Ar214, q214, S214, M214, H214, G214⟩ := id V202
  have K216 : ∀ t, Steps p.tables e below (T202.setTop (mkF m 39 #[.val (.ref a1), .val (.ref b104), .val (.int ((2 : Int32) + (1 : Int32)))] [])) t → Steps p.tables e below (s₁.setTop (entryFrame m #[(.ref a1)] 3)) t := by
    intro t kt
    refine K215 t ?_
    show Steps p.tables e below (T202.setTop (mkF m 13 #[.val (.ref a1), .val (.ref b104), .val (.int ((2 : Int32) + (1 : Int32)))] [(.ref b104), (.int ((2 : Int32) + (1 : Int32)))])) _
    refine X202.arraylength hx (by rw [e202]; exact Ar214.1) (State.isArrayOf_alike hZ.alike Ar214.2.1) (g := (mkF m 13 #[.val (.ref a1), .val (.ref b104), .val (.int ((2 : Int32) + (1 : Int32)))] [(.ref b104), (.int ((2 : Int32) + (1 : Int32)))])) rfl rfl (hb hby d18_13) _ ?_
    rw [len_of S214 M214]
    show Steps p.tables e below (T202.setTop (mkF m 14 #[.val (.ref a1), .val (.ref b104), .val (.int ((2 : Int32) + (1 : Int32)))] [(.int (3 : Int32)), (.int ((2 : Int32) + (1 : Int32)))])) _
    refine XS.icmpYes X202.here hx rfl (pc0 := 14) (pc' := 39) rfl (hb hby d18_14) rfl (flt (by decide : ¬ (((2 : Int32) + (1 : Int32)) < (3 : Int32)))).2.1 (by decide) (by decide) ?_
    exact kt
  obtain ⟨T217, h217, X217, e217, E217, A217, D217, U217, st217⟩ := newO X202 hx hZ hown (hw _ (List.mem_of_getElem? (i := 4) rfl)) (hw _ (List.mem_of_getElem? (i := 5) rfl)) (hw _ (List.mem_of_getElem? (i := 2) rfl)) e202 (g := (mkF m 39 #[.val (.ref a1), .val (.ref b104), .val (.int ((2 : Int32) + (1 : Int32)))] [])) rfl (hb hby d18_39) (by decide) (by decide)
  obtain ⟨b217, g217⟩ : ∃ z, z = h202.size := ⟨_, rfl⟩
  rw [← g217] at A217 D217 U217 st217
  have ne_a1_b217 : a1 ≠ b217 := by rw [g217]; exact Nat.ne_of_lt f205.lt
  have ne_tq_b217 : tq ≠ b217 := by rw [g217]; exact Nat.ne_of_lt f208.lt
  have ne_el0_b217 : el0 ≠ b217 := by rw [g217]; exact Nat.ne_of_lt f209.lt
  have ne_el1_b217 : el1 ≠ b217 := by rw [g217]; exact Nat.ne_of_lt f210.lt
  have ne_el2_b217 : el2 ≠ b217 := by rw [g217]; exact Nat.ne_of_lt f211.lt
  have ne_b104_b217 : b104 ≠ b217 := by rw [g217]; exact Nat.ne_of_lt V202.lt
  have sz218 : h0.size ≤ b217 := Nat.le_trans f204.1 (Nat.le_of_eq g217.symm)
  have g_b217 : n0 ≤ b217 := Nat.le_trans f203 (Nat.le_of_eq g217.symm)
  have f219 := Nat.le_trans f203 E217.1
  have f220 := f204.ext E217
  have f221 := f205.ext E217
  have f222 := f206.ext E217
  have f223 := f207.ext E217
  have f224 := f208.ext E217
  have f225 := f209.ext E217
  have f226 := f210.ext E217
  have f227 := f211.ext E217
  have f228 := V202.ext E217
  have f229 := f212.ext E217
  have F230 : Fld Z h217 b217 "com/example/tranchery/tranchery/Cents" "amounts" "[J" .null := D217 (Or.inr (hw _ (List.mem_of_getElem? (i := 14) rfl))) (ty := (.array .long)) (by decide)
  have K231 : ∀ t, Steps p.tables e below (T217.setTop (mkF m 42 #[.val (.ref a1), .val (.ref b104), .val (.int ((2 : Int32) + (1 : Int32)))] [(.ref b217)])) t → Steps p.tables e below (s₁.setTop (entryFrame m #[(.ref a1)] 3)) t := fun t kt => K216 t (st217 t kt)
  have K232 : ∀ t, Steps p.tables e below (T217.setTop (mkF m 44 #[.val (.ref a1), .val (.ref b104), .val (.int ((2 : Int32) + (1 : Int32)))] [(.ref b104), (.ref b217), (.ref b217)])) t → Steps p.tables e below (s₁.setTop (entryFrame m #[(.ref a1)] 3)) t := by
    intro t kt
    refine K231 t ?_
    show Steps p.tables e below (T217.setTop (mkF m 42 #[.val (.ref a1), .val (.ref b104), .val (.int ((2 : Int32) + (1 : Int32)))] [(.ref b217)])) _
    refine XS.dup X217.here hx rfl (hb hby d18_42) rfl rfl ?_
    show Steps p.tables e below (T217.setTop (mkF m 43 #[.val (.ref a1), .val (.ref b104), .val (.int ((2 : Int32) + (1 : Int32)))] [(.ref b217), (.ref b217)])) _
    refine XS.aloadN X217.here hx rfl (hb hby d18_43) rfl rfl ?_
    exact kt
  obtain ⟨_, _, ⟨T233, L233, k233, n233⟩, -, X233, ⟨Lc233, hQ233, l233, y233, z233⟩, st233⟩ := X217.specialBack hx (y := (⟨"com/example/tranchery/tranchery/Cents", "<init>", "([J)V"⟩ : MethodName)) rfl hown (mvT hZ (hw _ (List.mem_of_getElem? (i := 7) rfl))) (mvT hZ (hw _ (List.mem_of_getElem? (i := 8) rfl))) (mvT hZ (hw _ (List.mem_of_getElem? (i := 9) rfl))) (by decide) (backOf (W := 1) (rmCI l Z a0 hw [] b217 b104 h217 n0 f219 A217 F230 g_b217) hZ (hw _ (List.mem_of_getElem? (i := 9) rfl)) (hw _ (List.mem_of_getElem? (i := 2) rfl)) (by decide) (by decide)) (g := (mkF m 44 #[.val (.ref a1), .val (.ref b104), .val (.int ((2 : Int32) + (1 : Int32)))] [(.ref b104), (.ref b217), (.ref b217)])) rfl (by rw [hml]; rfl) (Steps.refl _) (a := b217) (argsL := [(.ref b104)]) (rest := [(.ref b217)]) (lenOf pd_0 rfl) rfl (by show 2 * 0 + _ ≤ _; exact Nat.le_of_eq rfl) (hb hby d18_44) (fun _ _ => ⟨rfl, e217, (by decide : 5 + 0 ≤ _), (by decide : 19 + 0 ≤ _)⟩)
  dsimp only [Pt.U, Pt.locs, Pt.cells, Pt.slots] at X233 l233 y233 z233 st233 hQ233
  subst l233 y233 z233
  obtain ⟨rfl, Nq233, Kq233, FA233⟩ := hQ233
  have f234 := Nat.le_trans f219 Kq233.1
  have f235 := f220.trans Kq233 (allS (Or.inr sz218) all0)
  have f236 := f221.keep Kq233
  have f237 := f222.keep Kq233 (own_nin ne_a1_b217)
  have f238 := f223.keep Kq233 (own_nin ne_a1_b217)
  have f239 := f224.keep Kq233 (own_nin ne_tq_b217)
  have f240 := f225.keep Kq233 (own_nin ne_el0_b217)
  have f241 := f226.keep Kq233 (own_nin ne_el1_b217)
  have f242 := f227.keep Kq233 (own_nin ne_el2_b217)
  have f243 := f228.keep Kq233 (own_nin ne_b104_b217)
  have f244 := f229.keep Kq233
  have f245 := A217.keep Kq233
  have N233 := Fr.app N202 Nq233
  have K246 : ∀ t, Steps p.tables e below (T233.setTop (mkF m 47 #[.val (.ref a1), .val (.ref b104), .val (.int ((2 : Int32) + (1 : Int32)))] [(.ref b217)])) t → Steps p.tables e below (s₁.setTop (entryFrame m #[(.ref a1)] 3)) t := fun t kt => K232 t (st233.trans kt)
  obtain ⟨fs, hr, hrun, hended, hW, hsame⟩ := X233.leave (v := some (.ref b217)) (fun h => by rw [Bd.returns] at h; cases h) (hlocks := hlk)
  refine ⟨_, _, K246 _ ?_, hrun, hended, _, _, rfl, ?_, ⟨_, rfl⟩, hW, hsame.mono (by decide) (by decide)⟩
  · exact retOut X233 hx Bd.returns rfl (Or.inr (Or.inr (Or.inr (Or.inr ⟨rfl, rfl, rfl⟩)))) (hb hby d18_47) hr
  · show QrmOF Z x0 x1 x2 h0 n0 _ T233.heap _
    exact ⟨_, _, _, rfl, ⟨f245, FA233, f243, f244⟩, N233, f235⟩
theorem ef_rmO0 (m : MethodId) (x0 : Addr) : entryFrame m #[(.ref x0)] 3 = mkF m 0 #[.val (.ref x0), .unset, .unset] [] := by first | (simp [entryFrame, mkF, argsToLocals, Value.category]; done) | rfl
def QrmO0 (Z : State) (h0 : Heap) (n0 : Nat) (v : Option Value) (h : Heap) (L : List Loc) : Prop := ∃ (b t : Addr) (kk : ClassId), v = some (.ref b) ∧ (Exa Z h b "com/example/tranchery/tranchery/Cents" ∧ Fld Z h b "com/example/tranchery/tranchery/Cents" "amounts" "[J" (.ref t) ∧ Arv Z h t kk .long (0 : Int32) [] (.long (0 : Int64)) ∧ Exa Z h t "[J") ∧ Fr n0 L ∧ Keep h0 h []
set_option maxRecDepth 65536 in
set_option maxHeartbeats 40000000 in
theorem rmO0 (l : Launch) (Z : State) (a0 : Array Value) (hw : ∀ d ∈ tables_1, d.before a0 Z = true) (ws : List Jvm.Cond) (a1 : Addr) (h0 : Heap) (n0 : Nat) (Z0 : n0 ≤ h0.size) (E1 : Exa Z h0 a1 "java/util/ArrayList") (F3 : Fld Z h0 a1 "java/util/ArrayList" "size" "I" (.int (0 : Int32))) :
    MetFree l (⟨"com/example/tranchery/tranchery/Cents", "of", "(Ljava/util/List;)Lcom/example/tranchery/tranchery/Cents;"⟩ : MethodName) (head1 (Jvm.Cond.code (⟨"com/example/tranchery/tranchery/Cents", "of", "(Ljava/util/List;)Lcom/example/tranchery/tranchery/Cents;"⟩ : MethodName) prog_5_method_2_code 3 (some (.object "com/example/tranchery/tranchery/Cents")) :: ws) ({ frames := 2, cells := 2, slots := 1, locals := 26 } : Room)) (fun a U => a = #[(.ref a1)] ∧ Z.Warmed39 U.vm ∧ U.heap = h0) (fun _ _ _ _ _ => True) (fun _ U o U' => ∃ v L, o = .returned v ∧ QrmO0 Z h0 n0 v U'.heap L ∧ FrameEnd U o U' L ({ frames := 2, cells := 2, slots := 1, locals := 26 } : Room).cells ({ frames := 2, cells := 2, slots := 1, locals := 26 } : Room).slots) := by
  refine MetFree.of_bodySF (plainFor_of_name pn_2) hisR ?_
  intro p e s m args below meth c s₁ Bd hml0 hP hK
  obtain ⟨rfl, hZ, hh⟩ := hP
  have hx := Bd.exec
  have hlk : meth.locks = false := BodyLoose.notSynchronized Bd
  have hby := Bd.bytes
  have hml : c.maxLocals = 3 := hml0
  have hown : s.vm.findClass "com/example/tranchery/tranchery/Cents" = some m.cls := findClass_of_methodNamed Bd.named
  have hnm := (name_of_methodNamed Bd.named Bd.method).1
  have X0 : Stand p l e ({ frames := 2, cells := 2, slots := 1, locals := 26 } : Room) s m #[(.ref a1)] below meth c s₁ [] 0 0 := Stand.of_body Bd
  have e0 : s₁.heap = h0 := by rw [← hh, Bd.state]; rfl
  have N0 := Fr.nil n0
  have K0 : ∀ t, Steps p.tables e below (s₁.setTop (mkF m 0 #[.val (.ref a1), .unset, .unset] [])) t → Steps p.tables e below (s₁.setTop (entryFrame m #[(.ref a1)] 3)) t := fun t k => castTop (ef_rmO0 m a1) k
  have KK0 : Keep h0 h0 [] := Keep.refl _ _
  
  have K101 : ∀ t, Steps p.tables e below (s₁.setTop (mkF m 1 #[.val (.ref a1), .unset, .unset] [(.ref a1)])) t → Steps p.tables e below (s₁.setTop (entryFrame m #[(.ref a1)] 3)) t := by
    intro t kt
    refine K0 t ?_
    show Steps p.tables e below (s₁.setTop (mkF m 0 #[.val (.ref a1), .unset, .unset] [])) _
    refine XS.aloadN X0.here hx rfl (hb hby d18_0) rfl rfl ?_
    exact kt
  obtain ⟨cq102, kq102, q102a, q102b, q102c⟩ := isOf hZ e0 E1
  obtain ⟨_, _, ⟨T102, L102, k102, n102⟩, -, X102, ⟨Lc102, hQ102, l102, y102, z102⟩, st102⟩ := X0.interfaceBack hx (xi := (⟨"java/util/List", "size", "()I"⟩ : MethodName)) (y := (⟨"java/util/ArrayList", "size", "()I"⟩ : MethodName)) hown (mvT hZ (hw _ (List.mem_of_getElem? (i := 123) rfl))) (mvT hZ (hw _ (List.mem_of_getElem? (i := 124) rfl))) (mvT hZ (hw _ (List.mem_of_getElem? (i := 125) rfl))) (mvT hZ (hw _ (List.mem_of_getElem? (i := 126) rfl))) (mvT hZ (hw _ (List.mem_of_getElem? (i := 127) rfl))) (mvT hZ (hw _ (List.mem_of_getElem? (i := 128) rfl))) (mvT hZ (hw _ (List.mem_of_getElem? (i := 129) rfl))) (mvT hZ (hw _ (List.mem_of_getElem? (i := 104) rfl))) (by decide) (backOf (W := 0) (rmSZ l Z a0 hw [] a1 (0 : Int32) h0 n0 Z0 F3) hZ (hw _ (List.mem_of_getElem? (i := 130) rfl)) (hw _ (List.mem_of_getElem? (i := 43) rfl)) (by decide) (by decide)) q102a q102b q102c (g := (mkF m 1 #[.val (.ref a1), .unset, .unset] [(.ref a1)])) rfl (by rw [hml]; rfl) (Steps.refl _) (argsL := []) (rest := []) (lenOf pd_14 rfl) rfl (by show 2 * 0 + _ ≤ _; exact Nat.le_of_eq rfl) (hb hby d18_1) (fun _ _ => ⟨rfl, e0, (by decide : 0 + 0 ≤ _), (by decide : 0 + 0 ≤ _)⟩)
  dsimp only [Pt.U, Pt.locs, Pt.cells, Pt.slots] at X102 l102 y102 z102 st102 hQ102
  subst l102 y102 z102
  obtain ⟨rfl, Nq102, e102⟩ := hQ102
  have N102 := Fr.app N0 Nq102
  have K103 : ∀ t, Steps p.tables e below (T102.setTop (mkF m 6 #[.val (.ref a1), .unset, .unset] [(.int (0 : Int32))])) t → Steps p.tables e below (s₁.setTop (entryFrame m #[(.ref a1)] 3)) t := fun t kt => K101 t (st102.trans kt)
  obtain ⟨T104, h104, k104, X104, e104, E104, A104, B104, st104⟩ := newPE X102 hx hZ (hw _ (List.mem_of_getElem? (i := 6) rfl)) e102 (g := (mkF m 6 #[.val (.ref a1), .unset, .unset] [(.int (0 : Int32))])) rfl (hb hby d18_6) rfl (by decide) (cap := 0) (by decide) (by decide) (by decide) (by decide) (ad := "[J") (by decide)
  obtain ⟨b104, g104⟩ : ∃ z, z = h0.size := ⟨_, rfl⟩
  rw [← g104] at A104 B104 st104
  have ne_a1_b104 : a1 ≠ b104 := by rw [g104]; exact Nat.ne_of_lt E1.lt
  have sz105 : h0.size ≤ b104 := Nat.le_trans KK0.1 (Nat.le_of_eq g104.symm)
  have g_b104 : n0 ≤ b104 := Nat.le_trans Z0 (Nat.le_of_eq g104.symm)
  have f106 := Nat.le_trans Z0 E104.1
  have f107 := KK0.ext E104
  have f108 := E1.ext E104
  have V104 : Arv Z h104 b104 k104 .long (0 : Int32) [] (.long (0 : Int64)) := Arv.new A104 (by decide)
  have K109 : ∀ t, Steps p.tables e below (T104.setTop (mkF m 8 #[.val (.ref a1), .unset, .unset] [(.ref b104)])) t → Steps p.tables e below (s₁.setTop (entryFrame m #[(.ref a1)] 3)) t := fun t kt => K103 t (st104 t kt)
  have K111 : ∀ t, Steps p.tables e below (T104.setTop (mkF m 13 #[.val (.ref a1), .val (.ref b104), .val (.int (0 : Int32))] [(.ref b104), (.int (0 : Int32))])) t → Steps p.tables e below (s₁.setTop (entryFrame m #[(.ref a1)] 3)) t := by
    intro t kt
    refine K109 t ?_
    show Steps p.tables e below (T104.setTop (mkF m 8 #[.val (.ref a1), .unset, .unset] [(.ref b104)])) _
    refine XS.astoreN X104.here hx rfl (hb hby d18_8) rfl rfl (l' := #[.val (.ref a1), .val (.ref b104), .unset]) rfl ?_
    show Steps p.tables e below (T104.setTop (mkF m 9 #[.val (.ref a1), .val (.ref b104), .unset] [])) _
    refine XS.iconst X104.here hx rfl (hb hby d18_9) ?_
    show Steps p.tables e below (T104.setTop (mkF m 10 #[.val (.ref a1), .val (.ref b104), .unset] [(.int (0 : Int32))])) _
    refine XS.istoreN X104.here hx rfl (hb hby d18_10) rfl (l' := #[.val (.ref a1), .val (.ref b104), .val (.int (0 : Int32))]) rfl ?_
    show Steps p.tables e below (T104.setTop (mkF m 11 #[.val (.ref a1), .val (.ref b104), .val (.int (0 : Int32))] [])) _
    refine XS.iloadN X104.here hx rfl (hb hby d18_11) rfl ?_
    show Steps p.tables e below (T104.setTop (mkF m 12 #[.val (.ref a1), .val (.ref b104), .val (.int (0 : Int32))] [(.int (0 : Int32))])) _
    refine XS.aloadN X104.here hx rfl (hb hby d18_12) rfl rfl ?_
    exact kt
  obtain ⟨cl110, Ar110, q110, S110, M110, H110, G110⟩ := id V104
  have K112 : ∀ t, Steps p.tables e below (T104.setTop (mkF m 39 #[.val (.ref a1), .val (.ref b104), .val (.int (0 : Int32))] [])) t → Steps p.tables e below (s₁.setTop (entryFrame m #[(.ref a1)] 3)) t := by
    intro t kt
    refine K111 t ?_
    show Steps p.tables e below (T104.setTop (mkF m 13 #[.val (.ref a1), .val (.ref b104), .val (.int (0 : Int32))] [(.ref b104), (.int (0 : Int32))])) _
    refine X104.arraylength hx (by rw [e104]; exact Ar110.1) (State.isArrayOf_alike hZ.alike Ar110.2.1) (g := (mkF m 13 #[.val (.ref a1), .val (.ref b104), .val (.int (0 : Int32))] [(.ref b104), (.int (0 : Int32))])) rfl rfl (hb hby d18_13) _ ?_
    rw [len_of S110 M110]
    show Steps p.tables e below (T104.setTop (mkF m 14 #[.val (.ref a1), .val (.ref b104), .val (.int (0 : Int32))] [(.int (0 : Int32)), (.int (0 : Int32))])) _
    refine XS.icmpYes X104.here hx rfl (pc0 := 14) (pc' := 39) rfl (hb hby d18_14) rfl (flt (by decide : ¬ ((0 : Int32) < (0 : Int32)))).2.1 (by decide) (by decide) ?_
    exact kt
  obtain ⟨T113, h113, X113, e113, E113, A113, D113, U113, st113⟩ := newO X104 hx hZ hown (hw _ (List.mem_of_getElem? (i := 4) rfl)) (hw _ (List.mem_of_getElem? (i := 5) rfl)) (hw _ (List.mem_of_getElem? (i := 2) rfl)) e104 (g := (mkF m 39 #[.val (.ref a1), .val (.ref b104), .val (.int (0 : Int32))] [])) rfl (hb hby d18_39) (by decide) (by decide)
  obtain ⟨b113, g113⟩ : ∃ z, z = h104.size := ⟨_, rfl⟩
  rw [← g113] at A113 D113 U113 st113
  have ne_a1_b113 : a1 ≠ b113 := by rw [g113]; exact Nat.ne_of_lt f108.lt
  have ne_b104_b113 : b104 ≠ b113 := by rw [g113]; exact Nat.ne_of_lt V104.lt
  have sz114 : h0.size ≤ b113 := Nat.le_trans f107.1 (Nat.le_of_eq g113.symm)
  have g_b113 : n0 ≤ b113 := Nat.le_trans f106 (Nat.le_of_eq g113.symm)
  have f115 := Nat.le_trans f106 E113.1
  have f116 := f107.ext E113
  have f117 := f108.ext E113
  have f118 := V104.ext E113
  have f119 := B104.ext E113
  have F120 : Fld Z h113 b113 "com/example/tranchery/tranchery/Cents" "amounts" "[J" .null := D113 (Or.inr (hw _ (List.mem_of_getElem? (i := 14) rfl))) (ty := (.array .long)) (by decide)
  have K121 : ∀ t, Steps p.tables e below (T113.setTop (mkF m 42 #[.val (.ref a1), .val (.ref b104), .val (.int (0 : Int32))] [(.ref b113)])) t → Steps p.tables e below (s₁.setTop (entryFrame m #[(.ref a1)] 3)) t := fun t kt => K112 t (st113 t kt)
  have K122 : ∀ t, Steps p.tables e below (T113.setTop (mkF m 44 #[.val (.ref a1), .val (.ref b104), .val (.int (0 : Int32))] [(.ref b104), (.ref b113), (.ref b113)])) t → Steps p.tables e below (s₁.setTop (entryFrame m #[(.ref a1)] 3)) t := by
    intro t kt
    refine K121 t ?_
    show Steps p.tables e below (T113.setTop (mkF m 42 #[.val (.ref a1), .val (.ref b104), .val (.int (0 : Int32))] [(.ref b113)])) _
    refine XS.dup X113.here hx rfl (hb hby d18_42) rfl rfl ?_
    show Steps p.tables e below (T113.setTop (mkF m 43 #[.val (.ref a1), .val (.ref b104), .val (.int (0 : Int32))] [(.ref b113), (.ref b113)])) _
    refine XS.aloadN X113.here hx rfl (hb hby d18_43) rfl rfl ?_
    exact kt
  obtain ⟨_, _, ⟨T123, L123, k123, n123⟩, -, X123, ⟨Lc123, hQ123, l123, y123, z123⟩, st123⟩ := X113.specialBack hx (y := (⟨"com/example/tranchery/tranchery/Cents", "<init>", "([J)V"⟩ : MethodName)) rfl hown (mvT hZ (hw _ (List.mem_of_getElem? (i := 7) rfl))) (mvT hZ (hw _ (List.mem_of_getElem? (i := 8) rfl))) (mvT hZ (hw _ (List.mem_of_getElem? (i := 9) rfl))) (by decide) (backOf (W := 1) (rmCI l Z a0 hw [] b113 b104 h113 n0 f115 A113 F120 g_b113) hZ (hw _ (List.mem_of_getElem? (i := 9) rfl)) (hw _ (List.mem_of_getElem? (i := 2) rfl)) (by decide) (by decide)) (g := (mkF m 44 #[.val (.ref a1), .val (.ref b104), .val (.int (0 : Int32))] [(.ref b104), (.ref b113), (.ref b113)])) rfl (by rw [hml]; rfl) (Steps.refl _) (a := b113) (argsL := [(.ref b104)]) (rest := [(.ref b113)]) (lenOf pd_0 rfl) rfl (by show 2 * 0 + _ ≤ _; exact Nat.le_of_eq rfl) (hb hby d18_44) (fun _ _ => ⟨rfl, e113, (by decide : 2 + 0 ≤ _), (by decide : 1 + 0 ≤ _)⟩)
  dsimp only [Pt.U, Pt.locs, Pt.cells, Pt.slots] at X123 l123 y123 z123 st123 hQ123
  subst l123 y123 z123
  obtain ⟨rfl, Nq123, Kq123, FA123⟩ := hQ123
  have f124 := Nat.le_trans f115 Kq123.1
  have f125 := f116.trans Kq123 (allS (Or.inr sz114) all0)
  have f126 := f117.keep Kq123
  have f127 := f118.keep Kq123 (own_nin ne_b104_b113)
  have f128 := f119.keep Kq123
  have f129 := A113.keep Kq123
  have N123 := Fr.app N102 Nq123
  have K130 : ∀ t, Steps p.tables e below (T123.setTop (mkF m 47 #[.val (.ref a1), .val (.ref b104), .val (.int (0 : Int32))] [(.ref b113)])) t → Steps p.tables e below (s₁.setTop (entryFrame m #[(.ref a1)] 3)) t := fun t kt => K122 t (st123.trans kt)
  obtain ⟨fs, hr, hrun, hended, hW, hsame⟩ := X123.leave (v := some (.ref b113)) (fun h => by rw [Bd.returns] at h; cases h) (hlocks := hlk)
  refine ⟨_, _, K130 _ ?_, hrun, hended, _, _, rfl, ?_, ⟨_, rfl⟩, hW, hsame.mono (by decide) (by decide)⟩
  · exact retOut X123 hx Bd.returns rfl (Or.inr (Or.inr (Or.inr (Or.inr ⟨rfl, rfl, rfl⟩)))) (hb hby d18_47) hr
  · show QrmO0 Z h0 n0 _ T123.heap _
    exact ⟨_, _, _, rfl, ⟨f129, FA123, f127, f128⟩, N123, f125⟩
theorem ef_rmCZ0 (m : MethodId) (x0 : Addr) : entryFrame m #[(.ref x0)] 1 = mkF m 0 #[.val (.ref x0)] [] := by first | (simp [entryFrame, mkF, argsToLocals, Value.category]; done) | rfl
def QrmCZ0  (h0 : Heap) (n0 : Nat) (v : Option Value) (h : Heap) (L : List Loc) : Prop := v = some (.int (0 : Int32)) ∧ Fr n0 L ∧ h = h0
set_option maxRecDepth 65536 in
set_option maxHeartbeats 40000000 in
theorem rmCZ0 (l : Launch) (Z : State) (a0 : Array Value) (hw : ∀ d ∈ tables_1, d.before a0 Z = true) (ws : List Jvm.Cond) (a1 t1 : Addr) (k1 : ClassId) (h0 : Heap) (n0 : Nat) (Z0 : n0 ≤ h0.size) (E1 : Exa Z h0 a1 "com/example/tranchery/tranchery/Cents") (F1 : Fld Z h0 a1 "com/example/tranchery/tranchery/Cents" "amounts" "[J" (.ref t1)) (V1 : Arv Z h0 t1 k1 .long (0 : Int32) [] (.long (0 : Int64))) (B1 : Exa Z h0 t1 "[J") :
    MetFree l (⟨"com/example/tranchery/tranchery/Cents", "size", "()I"⟩ : MethodName) (head1 (Jvm.Cond.code (⟨"com/example/tranchery/tranchery/Cents", "size", "()I"⟩ : MethodName) prog_5_method_5_code 1 (some .int) :: ws) ({ frames := 0, cells := 0, slots := 0, locals := 0 } : Room)) (fun a U => a = #[(.ref a1)] ∧ Z.Warmed39 U.vm ∧ U.heap = h0) (fun _ _ _ _ _ => True) (fun _ U o U' => ∃ v L, o = .returned v ∧ QrmCZ0  h0 n0 v U'.heap L ∧ FrameEnd U o U' L ({ frames := 0, cells := 0, slots := 0, locals := 0 } : Room).cells ({ frames := 0, cells := 0, slots := 0, locals := 0 } : Room).slots) := by
  refine MetFree.of_bodySF (plainFor_of_name pn_2) hisR ?_
  intro p e s m args below meth c s₁ Bd hml0 hP hK
  obtain ⟨rfl, hZ, hh⟩ := hP
  have hx := Bd.exec
  have hlk : meth.locks = false := BodyLoose.notSynchronized Bd
  have hby := Bd.bytes
  have hml : c.maxLocals = 1 := hml0
  have hown : s.vm.findClass "com/example/tranchery/tranchery/Cents" = some m.cls := findClass_of_methodNamed Bd.named
  have hnm := (name_of_methodNamed Bd.named Bd.method).1
  have X0 : Stand p l e ({ frames := 0, cells := 0, slots := 0, locals := 0 } : Room) s m #[(.ref a1)] below meth c s₁ [] 0 0 := Stand.of_body Bd
  have e0 : s₁.heap = h0 := by rw [← hh, Bd.state]; rfl
  have N0 := Fr.nil n0
  have K0 : ∀ t, Steps p.tables e below (s₁.setTop (mkF m 0 #[.val (.ref a1)] [])) t → Steps p.tables e below (s₁.setTop (entryFrame m #[(.ref a1)] 1)) t := fun t k => castTop (ef_rmCZ0 m a1) k
  have KK0 : Keep h0 h0 [] := Keep.refl _ _
  
  have K101 : ∀ t, Steps p.tables e below (s₁.setTop (mkF m 1 #[.val (.ref a1)] [(.ref a1)])) t → Steps p.tables e below (s₁.setTop (entryFrame m #[(.ref a1)] 1)) t := by
    intro t kt
    refine K0 t ?_
    show Steps p.tables e below (s₁.setTop (mkF m 0 #[.val (.ref a1)] [])) _
    refine XS.aloadN X0.here hx rfl (hb hby d28_0) rfl rfl ?_
    exact kt
  obtain ⟨T102, X102, e102, st102⟩ := getF X0 hx hZ hown (host := "") (Or.inl (hw _ (List.mem_of_getElem? (i := 13) rfl))) Via.refl e0 F1 (g := (mkF m 1 #[.val (.ref a1)] [(.ref a1)])) rfl rfl (hb hby d28_1)
  have K103 : ∀ t, Steps p.tables e below (T102.setTop (mkF m 4 #[.val (.ref a1)] [(.ref t1)])) t → Steps p.tables e below (s₁.setTop (entryFrame m #[(.ref a1)] 1)) t := fun t kt => K101 t (st102 t kt)
  obtain ⟨cl104, Ar104, q104, S104, M104, H104, G104⟩ := id V1
  have K105 : ∀ t, Steps p.tables e below (T102.setTop (mkF m 5 #[.val (.ref a1)] [(.int (0 : Int32))])) t → Steps p.tables e below (s₁.setTop (entryFrame m #[(.ref a1)] 1)) t := by
    intro t kt
    refine K103 t ?_
    show Steps p.tables e below (T102.setTop (mkF m 4 #[.val (.ref a1)] [(.ref t1)])) _
    refine X102.arraylength hx (by rw [e102]; exact Ar104.1) (State.isArrayOf_alike hZ.alike Ar104.2.1) (g := (mkF m 4 #[.val (.ref a1)] [(.ref t1)])) rfl rfl (hb hby d28_4) _ ?_
    rw [len_of S104 M104]
    exact kt
  obtain ⟨fs, hr, hrun, hended, hW, hsame⟩ := X102.leave (v := some (.int (0 : Int32))) (fun h => by rw [Bd.returns] at h; cases h) (hlocks := hlk)
  refine ⟨_, _, K105 _ ?_, hrun, hended, _, _, rfl, ?_, ⟨_, rfl⟩, hW, hsame.mono (by decide) (by decide)⟩
  · exact retI X102 hx Bd.returns (hb hby d28_5) hr
  · show QrmCZ0 h0 n0 _ T102.heap _
    rw [e102]
    exact ⟨rfl, N0, rfl⟩
theorem ef_rmCZ3 (m : MethodId) (x0 : Addr) : entryFrame m #[(.ref x0)] 1 = mkF m 0 #[.val (.ref x0)] [] := by first | (simp [entryFrame, mkF, argsToLocals, Value.category]; done) | rfl
def QrmCZ3  (h0 : Heap) (n0 : Nat) (v : Option Value) (h : Heap) (L : List Loc) : Prop := v = some (.int (3 : Int32)) ∧ Fr n0 L ∧ h = h0
set_option maxRecDepth 65536 in
set_option maxHeartbeats 40000000 in
theorem rmCZ3 (l : Launch) (Z : State) (a0 : Array Value) (hw : ∀ d ∈ tables_1, d.before a0 Z = true) (ws : List Jvm.Cond) (a1 t1 : Addr) (k1 : ClassId) (x0 x1 x2 : Int64) (h0 : Heap) (n0 : Nat) (Z0 : n0 ≤ h0.size) (E1 : Exa Z h0 a1 "com/example/tranchery/tranchery/Cents") (F1 : Fld Z h0 a1 "com/example/tranchery/tranchery/Cents" "amounts" "[J" (.ref t1)) (V1 : Arv Z h0 t1 k1 .long (3 : Int32) [(.long x0), (.long x1), (.long x2)] (.long (0 : Int64))) (B1 : Exa Z h0 t1 "[J") :
    MetFree l (⟨"com/example/tranchery/tranchery/Cents", "size", "()I"⟩ : MethodName) (head1 (Jvm.Cond.code (⟨"com/example/tranchery/tranchery/Cents", "size", "()I"⟩ : MethodName) prog_5_method_5_code 1 (some .int) :: ws) ({ frames := 0, cells := 0, slots := 0, locals := 0 } : Room)) (fun a U => a = #[(.ref a1)] ∧ Z.Warmed39 U.vm ∧ U.heap = h0) (fun _ _ _ _ _ => True) (fun _ U o U' => ∃ v L, o = .returned v ∧ QrmCZ3  h0 n0 v U'.heap L ∧ FrameEnd U o U' L ({ frames := 0, cells := 0, slots := 0, locals := 0 } : Room).cells ({ frames := 0, cells := 0, slots := 0, locals := 0 } : Room).slots) := by
  refine MetFree.of_bodySF (plainFor_of_name pn_2) hisR ?_
  intro p e s m args below meth c s₁ Bd hml0 hP hK
  obtain ⟨rfl, hZ, hh⟩ := hP
  have hx := Bd.exec
  have hlk : meth.locks = false := BodyLoose.notSynchronized Bd
  have hby := Bd.bytes
  have hml : c.maxLocals = 1 := hml0
  have hown : s.vm.findClass "com/example/tranchery/tranchery/Cents" = some m.cls := findClass_of_methodNamed Bd.named
  have hnm := (name_of_methodNamed Bd.named Bd.method).1
  have X0 : Stand p l e ({ frames := 0, cells := 0, slots := 0, locals := 0 } : Room) s m #[(.ref a1)] below meth c s₁ [] 0 0 := Stand.of_body Bd
  have e0 : s₁.heap = h0 := by rw [← hh, Bd.state]; rfl
  have N0 := Fr.nil n0
  have K0 : ∀ t, Steps p.tables e below (s₁.setTop (mkF m 0 #[.val (.ref a1)] [])) t → Steps p.tables e below (s₁.setTop (entryFrame m #[(.ref a1)] 1)) t := fun t k => castTop (ef_rmCZ3 m a1) k
  have KK0 : Keep h0 h0 [] := Keep.refl _ _
  
  have K101 : ∀ t, Steps p.tables e below (s₁.setTop (mkF m 1 #[.val (.ref a1)] [(.ref a1)])) t → Steps p.tables e below (s₁.setTop (entryFrame m #[(.ref a1)] 1)) t := by
    intro t kt
    refine K0 t ?_
    show Steps p.tables e below (s₁.setTop (mkF m 0 #[.val (.ref a1)] [])) _
    refine XS.aloadN X0.here hx rfl (hb hby d28_0) rfl rfl ?_
    exact kt
  obtain ⟨T102, X102, e102, st102⟩ := getF X0 hx hZ hown (host := "") (Or.inl (hw _ (List.mem_of_getElem? (i := 13) rfl))) Via.refl e0 F1 (g := (mkF m 1 #[.val (.ref a1)] [(.ref a1)])) rfl rfl (hb hby d28_1)
  have K103 : ∀ t, Steps p.tables e below (T102.setTop (mkF m 4 #[.val (.ref a1)] [(.ref t1)])) t → Steps p.tables e below (s₁.setTop (entryFrame m #[(.ref a1)] 1)) t := fun t kt => K101 t (st102 t kt)
  obtain ⟨cl104, Ar104, q104, S104, M104, H104, G104⟩ := id V1
  have K105 : ∀ t, Steps p.tables e below (T102.setTop (mkF m 5 #[.val (.ref a1)] [(.int (3 : Int32))])) t → Steps p.tables e below (s₁.setTop (entryFrame m #[(.ref a1)] 1)) t := by
    intro t kt
    refine K103 t ?_
    show Steps p.tables e below (T102.setTop (mkF m 4 #[.val (.ref a1)] [(.ref t1)])) _
    refine X102.arraylength hx (by rw [e102]; exact Ar104.1) (State.isArrayOf_alike hZ.alike Ar104.2.1) (g := (mkF m 4 #[.val (.ref a1)] [(.ref t1)])) rfl rfl (hb hby d28_4) _ ?_
    rw [len_of S104 M104]
    exact kt
  obtain ⟨fs, hr, hrun, hended, hW, hsame⟩ := X102.leave (v := some (.int (3 : Int32))) (fun h => by rw [Bd.returns] at h; cases h) (hlocks := hlk)
  refine ⟨_, _, K105 _ ?_, hrun, hended, _, _, rfl, ?_, ⟨_, rfl⟩, hW, hsame.mono (by decide) (by decide)⟩
  · exact retI X102 hx Bd.returns (hb hby d28_5) hr
  · show QrmCZ3 h0 n0 _ T102.heap _
    rw [e102]
    exact ⟨rfl, N0, rfl⟩
theorem ef_rmCC0 (m : MethodId) (x0 : Addr) (x1 : Int32) : entryFrame m #[(.ref x0), (.int x1)] 2 = mkF m 0 #[.val (.ref x0), .val (.int x1)] [] := by first | (simp [entryFrame, mkF, argsToLocals, Value.category]; done) | rfl
def QrmCC0 (x : Int64) (h0 : Heap) (n0 : Nat) (v : Option Value) (h : Heap) (L : List Loc) : Prop := v = some (.long x) ∧ Fr n0 L ∧ h = h0
set_option maxRecDepth 65536 in
set_option maxHeartbeats 40000000 in
theorem rmCC0 (l : Launch) (Z : State) (a0 : Array Value) (hw : ∀ d ∈ tables_1, d.before a0 Z = true) (ws : List Jvm.Cond) (a1 t1 : Addr) (k1 : ClassId) (x0 x1 x2 : Int64) (h0 : Heap) (n0 : Nat) (Z0 : n0 ≤ h0.size) (E1 : Exa Z h0 a1 "com/example/tranchery/tranchery/Cents") (F1 : Fld Z h0 a1 "com/example/tranchery/tranchery/Cents" "amounts" "[J" (.ref t1)) (V1 : Arv Z h0 t1 k1 .long (3 : Int32) [(.long x0), (.long x1), (.long x2)] (.long (0 : Int64))) (B1 : Exa Z h0 t1 "[J") :
    MetFree l (⟨"com/example/tranchery/tranchery/Cents", "cents", "(I)J"⟩ : MethodName) (head1 (Jvm.Cond.code (⟨"com/example/tranchery/tranchery/Cents", "cents", "(I)J"⟩ : MethodName) prog_5_method_6_code 2 (some .long) :: ws) ({ frames := 0, cells := 0, slots := 0, locals := 0 } : Room)) (fun a U => a = #[(.ref a1), (.int (0 : Int32))] ∧ Z.Warmed39 U.vm ∧ U.heap = h0) (fun _ _ _ _ _ => True) (fun _ U o U' => ∃ v L, o = .returned v ∧ QrmCC0 x0 h0 n0 v U'.heap L ∧ FrameEnd U o U' L ({ frames := 0, cells := 0, slots := 0, locals := 0 } : Room).cells ({ frames := 0, cells := 0, slots := 0, locals := 0 } : Room).slots) := by
  refine MetFree.of_bodySF (plainFor_of_name pn_2) hisR ?_
  intro p e s m args below meth c s₁ Bd hml0 hP hK
  obtain ⟨rfl, hZ, hh⟩ := hP
  have hx := Bd.exec
  have hlk : meth.locks = false := BodyLoose.notSynchronized Bd
  have hby := Bd.bytes
  have hml : c.maxLocals = 2 := hml0
  have hown : s.vm.findClass "com/example/tranchery/tranchery/Cents" = some m.cls := findClass_of_methodNamed Bd.named
  have hnm := (name_of_methodNamed Bd.named Bd.method).1
  have X0 : Stand p l e ({ frames := 0, cells := 0, slots := 0, locals := 0 } : Room) s m #[(.ref a1), (.int (0 : Int32))] below meth c s₁ [] 0 0 := Stand.of_body Bd
  have e0 : s₁.heap = h0 := by rw [← hh, Bd.state]; rfl
  have N0 := Fr.nil n0
  have K0 : ∀ t, Steps p.tables e below (s₁.setTop (mkF m 0 #[.val (.ref a1), .val (.int (0 : Int32))] [])) t → Steps p.tables e below (s₁.setTop (entryFrame m #[(.ref a1), (.int (0 : Int32))] 2)) t := fun t k => castTop (ef_rmCC0 m a1 (0 : Int32)) k
  have KK0 : Keep h0 h0 [] := Keep.refl _ _
  
  have K101 : ∀ t, Steps p.tables e below (s₁.setTop (mkF m 1 #[.val (.ref a1), .val (.int (0 : Int32))] [(.ref a1)])) t → Steps p.tables e below (s₁.setTop (entryFrame m #[(.ref a1), (.int (0 : Int32))] 2)) t := by
    intro t kt
    refine K0 t ?_
    show Steps p.tables e below (s₁.setTop (mkF m 0 #[.val (.ref a1), .val (.int (0 : Int32))] [])) _
    refine XS.aloadN X0.here hx rfl (hb hby d29_0) rfl rfl ?_
    exact kt
  obtain ⟨T102, X102, e102, st102⟩ := getF X0 hx hZ hown (host := "") (Or.inl (hw _ (List.mem_of_getElem? (i := 13) rfl))) Via.refl e0 F1 (g := (mkF m 1 #[.val (.ref a1), .val (.int (0 : Int32))] [(.ref a1)])) rfl rfl (hb hby d29_1)
  have K103 : ∀ t, Steps p.tables e below (T102.setTop (mkF m 4 #[.val (.ref a1), .val (.int (0 : Int32))] [(.ref t1)])) t → Steps p.tables e below (s₁.setTop (entryFrame m #[(.ref a1), (.int (0 : Int32))] 2)) t := fun t kt => K101 t (st102 t kt)
  have K104 : ∀ t, Steps p.tables e below (T102.setTop (mkF m 5 #[.val (.ref a1), .val (.int (0 : Int32))] [(.int (0 : Int32)), (.ref t1)])) t → Steps p.tables e below (s₁.setTop (entryFrame m #[(.ref a1), (.int (0 : Int32))] 2)) t := by
    intro t kt
    refine K103 t ?_
    show Steps p.tables e below (T102.setTop (mkF m 4 #[.val (.ref a1), .val (.int (0 : Int32))] [(.ref t1)])) _
    refine XS.iloadN X102.here hx rfl (hb hby d29_4) rfl ?_
    exact kt
  obtain ⟨cl105, Ar105, q105, S105, M105, H105, G105⟩ := id V1
  have hin105 : ¬ ((0 : Int32) < 0 ∨ cl105.slots.size ≤ ((0 : Int32)).toNatClampNeg) := inb_of S105 ⟨by decide, by decide⟩
  have hat105 : cl105.slots[((0 : Int32)).toNatClampNeg]? = some (.long x0) := H105 0 (by rw [S105]; decide)
  have K106 : ∀ t, Steps p.tables e below (T102.setTop (mkF m 6 #[.val (.ref a1), .val (.int (0 : Int32))] [(.long x0)])) t → Steps p.tables e below (s₁.setTop (entryFrame m #[(.ref a1), (.int (0 : Int32))] 2)) t := by
    intro t kt
    refine K104 t ?_
    show Steps p.tables e below (T102.setTop (mkF m 5 #[.val (.ref a1), .val (.int (0 : Int32))] [(.int (0 : Int32)), (.ref t1)])) _
    refine X102.laload hx (j := (0 : Int32)) (v := (.long x0)) (by rw [e102]; exact Ar105.1) (State.isArrayOf_alike hZ.alike Ar105.2.1) Ar105.2.2 hin105 hat105 (g := (mkF m 5 #[.val (.ref a1), .val (.int (0 : Int32))] [(.int (0 : Int32)), (.ref t1)])) rfl rfl (hb hby d29_5) _ ?_
    exact kt
  obtain ⟨fs, hr, hrun, hended, hW, hsame⟩ := X102.leave (v := some (.long x0)) (fun h => by rw [Bd.returns] at h; cases h) (hlocks := hlk)
  refine ⟨_, _, K106 _ ?_, hrun, hended, _, _, rfl, ?_, ⟨_, rfl⟩, hW, hsame.mono (by decide) (by decide)⟩
  · exact retOut X102 hx Bd.returns rfl (Or.inr (Or.inl ⟨rfl, rfl, _, rfl⟩)) (hb hby d29_6) hr
  · show QrmCC0 x0 h0 n0 _ T102.heap _
    rw [e102]
    exact ⟨rfl, N0, rfl⟩
theorem ef_rmCC1 (m : MethodId) (x0 : Addr) (x1 : Int32) : entryFrame m #[(.ref x0), (.int x1)] 2 = mkF m 0 #[.val (.ref x0), .val (.int x1)] [] := by first | (simp [entryFrame, mkF, argsToLocals, Value.category]; done) | rfl
def QrmCC1 (x : Int64) (h0 : Heap) (n0 : Nat) (v : Option Value) (h : Heap) (L : List Loc) : Prop := v = some (.long x) ∧ Fr n0 L ∧ h = h0
set_option maxRecDepth 65536 in
set_option maxHeartbeats 40000000 in
theorem rmCC1 (l : Launch) (Z : State) (a0 : Array Value) (hw : ∀ d ∈ tables_1, d.before a0 Z = true) (ws : List Jvm.Cond) (a1 t1 : Addr) (k1 : ClassId) (x0 x1 x2 : Int64) (h0 : Heap) (n0 : Nat) (Z0 : n0 ≤ h0.size) (E1 : Exa Z h0 a1 "com/example/tranchery/tranchery/Cents") (F1 : Fld Z h0 a1 "com/example/tranchery/tranchery/Cents" "amounts" "[J" (.ref t1)) (V1 : Arv Z h0 t1 k1 .long (3 : Int32) [(.long x0), (.long x1), (.long x2)] (.long (0 : Int64))) (B1 : Exa Z h0 t1 "[J") :
    MetFree l (⟨"com/example/tranchery/tranchery/Cents", "cents", "(I)J"⟩ : MethodName) (head1 (Jvm.Cond.code (⟨"com/example/tranchery/tranchery/Cents", "cents", "(I)J"⟩ : MethodName) prog_5_method_6_code 2 (some .long) :: ws) ({ frames := 0, cells := 0, slots := 0, locals := 0 } : Room)) (fun a U => a = #[(.ref a1), (.int (1 : Int32))] ∧ Z.Warmed39 U.vm ∧ U.heap = h0) (fun _ _ _ _ _ => True) (fun _ U o U' => ∃ v L, o = .returned v ∧ QrmCC1 x1 h0 n0 v U'.heap L ∧ FrameEnd U o U' L ({ frames := 0, cells := 0, slots := 0, locals := 0 } : Room).cells ({ frames := 0, cells := 0, slots := 0, locals := 0 } : Room).slots) := by
  refine MetFree.of_bodySF (plainFor_of_name pn_2) hisR ?_
  intro p e s m args below meth c s₁ Bd hml0 hP hK
  obtain ⟨rfl, hZ, hh⟩ := hP
  have hx := Bd.exec
  have hlk : meth.locks = false := BodyLoose.notSynchronized Bd
  have hby := Bd.bytes
  have hml : c.maxLocals = 2 := hml0
  have hown : s.vm.findClass "com/example/tranchery/tranchery/Cents" = some m.cls := findClass_of_methodNamed Bd.named
  have hnm := (name_of_methodNamed Bd.named Bd.method).1
  have X0 : Stand p l e ({ frames := 0, cells := 0, slots := 0, locals := 0 } : Room) s m #[(.ref a1), (.int (1 : Int32))] below meth c s₁ [] 0 0 := Stand.of_body Bd
  have e0 : s₁.heap = h0 := by rw [← hh, Bd.state]; rfl
  have N0 := Fr.nil n0
  have K0 : ∀ t, Steps p.tables e below (s₁.setTop (mkF m 0 #[.val (.ref a1), .val (.int (1 : Int32))] [])) t → Steps p.tables e below (s₁.setTop (entryFrame m #[(.ref a1), (.int (1 : Int32))] 2)) t := fun t k => castTop (ef_rmCC1 m a1 (1 : Int32)) k
  have KK0 : Keep h0 h0 [] := Keep.refl _ _
  
  have K101 : ∀ t, Steps p.tables e below (s₁.setTop (mkF m 1 #[.val (.ref a1), .val (.int (1 : Int32))] [(.ref a1)])) t → Steps p.tables e below (s₁.setTop (entryFrame m #[(.ref a1), (.int (1 : Int32))] 2)) t := by
    intro t kt
    refine K0 t ?_
    show Steps p.tables e below (s₁.setTop (mkF m 0 #[.val (.ref a1), .val (.int (1 : Int32))] [])) _
    refine XS.aloadN X0.here hx rfl (hb hby d29_0) rfl rfl ?_
    exact kt
  obtain ⟨T102, X102, e102, st102⟩ := getF X0 hx hZ hown (host := "") (Or.inl (hw _ (List.mem_of_getElem? (i := 13) rfl))) Via.refl e0 F1 (g := (mkF m 1 #[.val (.ref a1), .val (.int (1 : Int32))] [(.ref a1)])) rfl rfl (hb hby d29_1)
  have K103 : ∀ t, Steps p.tables e below (T102.setTop (mkF m 4 #[.val (.ref a1), .val (.int (1 : Int32))] [(.ref t1)])) t → Steps p.tables e below (s₁.setTop (entryFrame m #[(.ref a1), (.int (1 : Int32))] 2)) t := fun t kt => K101 t (st102 t kt)
  have K104 : ∀ t, Steps p.tables e below (T102.setTop (mkF m 5 #[.val (.ref a1), .val (.int (1 : Int32))] [(.int (1 : Int32)), (.ref t1)])) t → Steps p.tables e below (s₁.setTop (entryFrame m #[(.ref a1), (.int (1 : Int32))] 2)) t := by
    intro t kt
    refine K103 t ?_
    show Steps p.tables e below (T102.setTop (mkF m 4 #[.val (.ref a1), .val (.int (1 : Int32))] [(.ref t1)])) _
    refine XS.iloadN X102.here hx rfl (hb hby d29_4) rfl ?_
    exact kt
  obtain ⟨cl105, Ar105, q105, S105, M105, H105, G105⟩ := id V1
  have hin105 : ¬ ((1 : Int32) < 0 ∨ cl105.slots.size ≤ ((1 : Int32)).toNatClampNeg) := inb_of S105 ⟨by decide, by decide⟩
  have hat105 : cl105.slots[((1 : Int32)).toNatClampNeg]? = some (.long x1) := H105 1 (by rw [S105]; decide)
  have K106 : ∀ t, Steps p.tables e below (T102.setTop (mkF m 6 #[.val (.ref a1), .val (.int (1 : Int32))] [(.long x1)])) t → Steps p.tables e below (s₁.setTop (entryFrame m #[(.ref a1), (.int (1 : Int32))] 2)) t := by
    intro t kt
    refine K104 t ?_
    show Steps p.tables e below (T102.setTop (mkF m 5 #[.val (.ref a1), .val (.int (1 : Int32))] [(.int (1 : Int32)), (.ref t1)])) _
    refine X102.laload hx (j := (1 : Int32)) (v := (.long x1)) (by rw [e102]; exact Ar105.1) (State.isArrayOf_alike hZ.alike Ar105.2.1) Ar105.2.2 hin105 hat105 (g := (mkF m 5 #[.val (.ref a1), .val (.int (1 : Int32))] [(.int (1 : Int32)), (.ref t1)])) rfl rfl (hb hby d29_5) _ ?_
    exact kt
  obtain ⟨fs, hr, hrun, hended, hW, hsame⟩ := X102.leave (v := some (.long x1)) (fun h => by rw [Bd.returns] at h; cases h) (hlocks := hlk)
  refine ⟨_, _, K106 _ ?_, hrun, hended, _, _, rfl, ?_, ⟨_, rfl⟩, hW, hsame.mono (by decide) (by decide)⟩
  · exact retOut X102 hx Bd.returns rfl (Or.inr (Or.inl ⟨rfl, rfl, _, rfl⟩)) (hb hby d29_6) hr
  · show QrmCC1 x1 h0 n0 _ T102.heap _
    rw [e102]
    exact ⟨rfl, N0, rfl⟩
theorem ef_rmCC2 (m : MethodId) (x0 : Addr) (x1 : Int32) : entryFrame m #[(.ref x0), (.int x1)] 2 = mkF m 0 #[.val (.ref x0), .val (.int x1)] [] := by first | (simp [entryFrame, mkF, argsToLocals, Value.category]; done) | rfl
def QrmCC2 (x : Int64) (h0 : Heap) (n0 : Nat) (v : Option Value) (h : Heap) (L : List Loc) : Prop := v = some (.long x) ∧ Fr n0 L ∧ h = h0
set_option maxRecDepth 65536 in
set_option maxHeartbeats 40000000 in
theorem rmCC2 (l : Launch) (Z : State) (a0 : Array Value) (hw : ∀ d ∈ tables_1, d.before a0 Z = true) (ws : List Jvm.Cond) (a1 t1 : Addr) (k1 : ClassId) (x0 x1 x2 : Int64) (h0 : Heap) (n0 : Nat) (Z0 : n0 ≤ h0.size) (E1 : Exa Z h0 a1 "com/example/tranchery/tranchery/Cents") (F1 : Fld Z h0 a1 "com/example/tranchery/tranchery/Cents" "amounts" "[J" (.ref t1)) (V1 : Arv Z h0 t1 k1 .long (3 : Int32) [(.long x0), (.long x1), (.long x2)] (.long (0 : Int64))) (B1 : Exa Z h0 t1 "[J") :
    MetFree l (⟨"com/example/tranchery/tranchery/Cents", "cents", "(I)J"⟩ : MethodName) (head1 (Jvm.Cond.code (⟨"com/example/tranchery/tranchery/Cents", "cents", "(I)J"⟩ : MethodName) prog_5_method_6_code 2 (some .long) :: ws) ({ frames := 0, cells := 0, slots := 0, locals := 0 } : Room)) (fun a U => a = #[(.ref a1), (.int (2 : Int32))] ∧ Z.Warmed39 U.vm ∧ U.heap = h0) (fun _ _ _ _ _ => True) (fun _ U o U' => ∃ v L, o = .returned v ∧ QrmCC2 x2 h0 n0 v U'.heap L ∧ FrameEnd U o U' L ({ frames := 0, cells := 0, slots := 0, locals := 0 } : Room).cells ({ frames := 0, cells := 0, slots := 0, locals := 0 } : Room).slots) := by
  refine MetFree.of_bodySF (plainFor_of_name pn_2) hisR ?_
  intro p e s m args below meth c s₁ Bd hml0 hP hK
  obtain ⟨rfl, hZ, hh⟩ := hP
  have hx := Bd.exec
  have hlk : meth.locks = false := BodyLoose.notSynchronized Bd
  have hby := Bd.bytes
  have hml : c.maxLocals = 2 := hml0
  have hown : s.vm.findClass "com/example/tranchery/tranchery/Cents" = some m.cls := findClass_of_methodNamed Bd.named
  have hnm := (name_of_methodNamed Bd.named Bd.method).1
  have X0 : Stand p l e ({ frames := 0, cells := 0, slots := 0, locals := 0 } : Room) s m #[(.ref a1), (.int (2 : Int32))] below meth c s₁ [] 0 0 := Stand.of_body Bd
  have e0 : s₁.heap = h0 := by rw [← hh, Bd.state]; rfl
  have N0 := Fr.nil n0
  have K0 : ∀ t, Steps p.tables e below (s₁.setTop (mkF m 0 #[.val (.ref a1), .val (.int (2 : Int32))] [])) t → Steps p.tables e below (s₁.setTop (entryFrame m #[(.ref a1), (.int (2 : Int32))] 2)) t := fun t k => castTop (ef_rmCC2 m a1 (2 : Int32)) k
  have KK0 : Keep h0 h0 [] := Keep.refl _ _
  
  have K101 : ∀ t, Steps p.tables e below (s₁.setTop (mkF m 1 #[.val (.ref a1), .val (.int (2 : Int32))] [(.ref a1)])) t → Steps p.tables e below (s₁.setTop (entryFrame m #[(.ref a1), (.int (2 : Int32))] 2)) t := by
    intro t kt
    refine K0 t ?_
    show Steps p.tables e below (s₁.setTop (mkF m 0 #[.val (.ref a1), .val (.int (2 : Int32))] [])) _
    refine XS.aloadN X0.here hx rfl (hb hby d29_0) rfl rfl ?_
    exact kt
  obtain ⟨T102, X102, e102, st102⟩ := getF X0 hx hZ hown (host := "") (Or.inl (hw _ (List.mem_of_getElem? (i := 13) rfl))) Via.refl e0 F1 (g := (mkF m 1 #[.val (.ref a1), .val (.int (2 : Int32))] [(.ref a1)])) rfl rfl (hb hby d29_1)
  have K103 : ∀ t, Steps p.tables e below (T102.setTop (mkF m 4 #[.val (.ref a1), .val (.int (2 : Int32))] [(.ref t1)])) t → Steps p.tables e below (s₁.setTop (entryFrame m #[(.ref a1), (.int (2 : Int32))] 2)) t := fun t kt => K101 t (st102 t kt)
  have K104 : ∀ t, Steps p.tables e below (T102.setTop (mkF m 5 #[.val (.ref a1), .val (.int (2 : Int32))] [(.int (2 : Int32)), (.ref t1)])) t → Steps p.tables e below (s₁.setTop (entryFrame m #[(.ref a1), (.int (2 : Int32))] 2)) t := by
    intro t kt
    refine K103 t ?_
    show Steps p.tables e below (T102.setTop (mkF m 4 #[.val (.ref a1), .val (.int (2 : Int32))] [(.ref t1)])) _
    refine XS.iloadN X102.here hx rfl (hb hby d29_4) rfl ?_
    exact kt
  obtain ⟨cl105, Ar105, q105, S105, M105, H105, G105⟩ := id V1
  have hin105 : ¬ ((2 : Int32) < 0 ∨ cl105.slots.size ≤ ((2 : Int32)).toNatClampNeg) := inb_of S105 ⟨by decide, by decide⟩
  have hat105 : cl105.slots[((2 : Int32)).toNatClampNeg]? = some (.long x2) := H105 2 (by rw [S105]; decide)
  have K106 : ∀ t, Steps p.tables e below (T102.setTop (mkF m 6 #[.val (.ref a1), .val (.int (2 : Int32))] [(.long x2)])) t → Steps p.tables e below (s₁.setTop (entryFrame m #[(.ref a1), (.int (2 : Int32))] 2)) t := by
    intro t kt
    refine K104 t ?_
    show Steps p.tables e below (T102.setTop (mkF m 5 #[.val (.ref a1), .val (.int (2 : Int32))] [(.int (2 : Int32)), (.ref t1)])) _
    refine X102.laload hx (j := (2 : Int32)) (v := (.long x2)) (by rw [e102]; exact Ar105.1) (State.isArrayOf_alike hZ.alike Ar105.2.1) Ar105.2.2 hin105 hat105 (g := (mkF m 5 #[.val (.ref a1), .val (.int (2 : Int32))] [(.int (2 : Int32)), (.ref t1)])) rfl rfl (hb hby d29_5) _ ?_
    exact kt
  obtain ⟨fs, hr, hrun, hended, hW, hsame⟩ := X102.leave (v := some (.long x2)) (fun h => by rw [Bd.returns] at h; cases h) (hlocks := hlk)
  refine ⟨_, _, K106 _ ?_, hrun, hended, _, _, rfl, ?_, ⟨_, rfl⟩, hW, hsame.mono (by decide) (by decide)⟩
  · exact retOut X102 hx Bd.returns rfl (Or.inr (Or.inl ⟨rfl, rfl, _, rfl⟩)) (hb hby d29_6) hr
  · show QrmCC2 x2 h0 n0 _ T102.heap _
    rw [e102]
    exact ⟨rfl, N0, rfl⟩
theorem ef_rm0 (m : MethodId) (x0 : Int64) (x1 : Int64) (x2 : Int32) : entryFrame m #[(.long x0), (.long x1), (.int x2)] maxLocals = mkF m 0 #[.val (.long x0), .second, .val (.long x1), .second, .val (.int x2), .unset, .unset, .unset, .unset, .unset, .unset, .unset] [] := by first | (simp [entryFrame, mkF, argsToLocals, Value.category, maxLocals]; done) | rfl
def Qrm0  (h0 : Heap) (n0 : Nat) (v : Option Value) (h : Heap) (L : List Loc) : Prop := v = some (.int 1) ∧ Fr n0 L
set_option maxRecDepth 65536 in
set_option maxHeartbeats 40000000 in
theorem rm0 (l : Launch) (Z : State) (a0 : Array Value) (hw : ∀ d ∈ tables_1, d.before a0 Z = true) (ws : List Jvm.Cond) (b1 b2 : Int64) (p3 : Int32) (az z2 : Addr) (cz : Cell) (ae : Value) (h0 : Heap) (n0 : Nat) (Z0 : n0 ≤ h0.size) (ZZ : ZSc Z Z.heap az z2 cz) (re : ae.isRef = true) (SE : Sta Z Z.heap "java/util/ArrayList" "EMPTY_ELEMENTDATA" "[Ljava/lang/Object;" ae) (X00 : Old Z n0 h0) :
    MetFree l x (head1 (Jvm.Cond.code x code maxLocals ret :: ws) room_1) (fun a U => a = #[(.long b1), (.long b2), (.int p3)] ∧ Z.Warmed39 U.vm ∧ U.heap = h0) (fun _ _ _ _ _ => True) (fun _ U o U' => ∃ v L, o = .returned v ∧ Qrm0  h0 n0 v U'.heap L ∧ FrameEnd U o U' L room_1.cells room_1.slots) := by
  refine MetFree.of_bodySF (plainFor_of_name pn_8) hisR ?_
  intro p e s m args below meth c s₁ Bd hml0 hP hK
  obtain ⟨rfl, hZ, hh⟩ := hP
  have hx := Bd.exec
  have hlk : meth.locks = false := BodyLoose.notSynchronized Bd
  have hby := Bd.bytes
  have hml : c.maxLocals = 12 := hml0
  have hown : s.vm.findClass "com/example/tranchery/tranchery/CentsOfPinLaw" = some m.cls := findClass_of_methodNamed Bd.named
  have hnm := (name_of_methodNamed Bd.named Bd.method).1
  have X0 : Stand p l e room_1 s m #[(.long b1), (.long b2), (.int p3)] below meth c s₁ [] 0 0 := Stand.of_body Bd
  have e0 : s₁.heap = h0 := by rw [← hh, Bd.state]; rfl
  have N0 := Fr.nil n0
  have K0 : ∀ t, Steps p.tables e below (s₁.setTop (mkF m 0 #[.val (.long b1), .second, .val (.long b2), .second, .val (.int p3), .unset, .unset, .unset, .unset, .unset, .unset, .unset] [])) t → Steps p.tables e below (s₁.setTop (entryFrame m #[(.long b1), (.long b2), (.int p3)] maxLocals)) t := fun t k => castTop (ef_rm0 m b1 b2 p3) k
  have KK0 : Keep h0 h0 [] := Keep.refl _ _
  
  have K101 : ∀ t, Steps p.tables e below (s₁.setTop (mkF m 3 #[.val (.long b1), .second, .val (.long b2), .second, .val (.int p3), .unset, .unset, .unset, .unset, .unset, .unset, .unset] [(.long (b1 >>> ((1 : Int32) &&& 0x3f).toInt64))])) t → Steps p.tables e below (s₁.setTop (entryFrame m #[(.long b1), (.long b2), (.int p3)] maxLocals)) t := by
    intro t kt
    refine K0 t ?_
    show Steps p.tables e below (s₁.setTop (mkF m 0 #[.val (.long b1), .second, .val (.long b2), .second, .val (.int p3), .unset, .unset, .unset, .unset, .unset, .unset, .unset] [])) _
    refine XS.lloadN X0.here hx rfl (hb hby at_0) rfl ?_
    show Steps p.tables e below (s₁.setTop (mkF m 1 #[.val (.long b1), .second, .val (.long b2), .second, .val (.int p3), .unset, .unset, .unset, .unset, .unset, .unset, .unset] [(.long b1)])) _
    refine XS.iconst X0.here hx rfl (hb hby at_1) ?_
    show Steps p.tables e below (s₁.setTop (mkF m 2 #[.val (.long b1), .second, .val (.long b2), .second, .val (.int p3), .unset, .unset, .unset, .unset, .unset, .unset, .unset] [(.int (1 : Int32)), (.long b1)])) _
    refine XS.lshr X0.here hx rfl (hb hby at_2) rfl ?_
    exact kt
  obtain ⟨xx, hxx⟩ : ∃ z : Int64, z = (b1 >>> ((1 : Int32) &&& 0x3f).toInt64) := ⟨_, rfl⟩
  have K102 : ∀ t, Steps p.tables e below (s₁.setTop (mkF m 3 #[.val (.long b1), .second, .val (.long b2), .second, .val (.int p3), .unset, .unset, .unset, .unset, .unset, .unset, .unset] [(.long xx)])) t → Steps p.tables e below (s₁.setTop (entryFrame m #[(.long b1), (.long b2), (.int p3)] maxLocals)) t := by
    rw [hxx]; exact K101
  have K103 : ∀ t, Steps p.tables e below (s₁.setTop (mkF m 8 #[.val (.long b1), .second, .val (.long b2), .second, .val (.int p3), .val (.long xx), .second, .unset, .unset, .unset, .unset, .unset] [(.long (b2 >>> ((1 : Int32) &&& 0x3f).toInt64))])) t → Steps p.tables e below (s₁.setTop (entryFrame m #[(.long b1), (.long b2), (.int p3)] maxLocals)) t := by
    intro t kt
    refine K102 t ?_
    show Steps p.tables e below (s₁.setTop (mkF m 3 #[.val (.long b1), .second, .val (.long b2), .second, .val (.int p3), .unset, .unset, .unset, .unset, .unset, .unset, .unset] [(.long xx)])) _
    refine XS.lstore X0.here hx rfl (hb hby at_3) rfl (l' := #[.val (.long b1), .second, .val (.long b2), .second, .val (.int p3), .val (.long xx), .second, .unset, .unset, .unset, .unset, .unset]) rfl ?_
    show Steps p.tables e below (s₁.setTop (mkF m 5 #[.val (.long b1), .second, .val (.long b2), .second, .val (.int p3), .val (.long xx), .second, .unset, .unset, .unset, .unset, .unset] [])) _
    refine XS.lloadN X0.here hx rfl (hb hby at_5) rfl ?_
    show Steps p.tables e below (s₁.setTop (mkF m 6 #[.val (.long b1), .second, .val (.long b2), .second, .val (.int p3), .val (.long xx), .second, .unset, .unset, .unset, .unset, .unset] [(.long b2)])) _
    refine XS.iconst X0.here hx rfl (hb hby at_6) ?_
    show Steps p.tables e below (s₁.setTop (mkF m 7 #[.val (.long b1), .second, .val (.long b2), .second, .val (.int p3), .val (.long xx), .second, .unset, .unset, .unset, .unset, .unset] [(.int (1 : Int32)), (.long b2)])) _
    refine XS.lshr X0.here hx rfl (hb hby at_7) rfl ?_
    exact kt
  obtain ⟨yy, hyy⟩ : ∃ z : Int64, z = (b2 >>> ((1 : Int32) &&& 0x3f).toInt64) := ⟨_, rfl⟩
  have K104 : ∀ t, Steps p.tables e below (s₁.setTop (mkF m 8 #[.val (.long b1), .second, .val (.long b2), .second, .val (.int p3), .val (.long xx), .second, .unset, .unset, .unset, .unset, .unset] [(.long yy)])) t → Steps p.tables e below (s₁.setTop (entryFrame m #[(.long b1), (.long b2), (.int p3)] maxLocals)) t := by
    rw [hyy]; exact K103
  have bx := own_half hxx
  have by_ := own_half hyy
  have K105 : ∀ t, Steps p.tables e below (s₁.setTop (mkF m 14 #[.val (.long b1), .second, .val (.long b2), .second, .val (.int p3), .val (.long xx), .second, .val (.long yy), .second, .unset, .unset, .unset] [(.int (p3 &&& (1 : Int32)))])) t → Steps p.tables e below (s₁.setTop (entryFrame m #[(.long b1), (.long b2), (.int p3)] maxLocals)) t := by
    intro t kt
    refine K104 t ?_
    show Steps p.tables e below (s₁.setTop (mkF m 8 #[.val (.long b1), .second, .val (.long b2), .second, .val (.int p3), .val (.long xx), .second, .unset, .unset, .unset, .unset, .unset] [(.long yy)])) _
    refine XS.lstore X0.here hx rfl (hb hby at_8) rfl (l' := #[.val (.long b1), .second, .val (.long b2), .second, .val (.int p3), .val (.long xx), .second, .val (.long yy), .second, .unset, .unset, .unset]) rfl ?_
    show Steps p.tables e below (s₁.setTop (mkF m 10 #[.val (.long b1), .second, .val (.long b2), .second, .val (.int p3), .val (.long xx), .second, .val (.long yy), .second, .unset, .unset, .unset] [])) _
    refine XS.iload X0.here hx rfl (hb hby at_10) rfl ?_
    show Steps p.tables e below (s₁.setTop (mkF m 12 #[.val (.long b1), .second, .val (.long b2), .second, .val (.int p3), .val (.long xx), .second, .val (.long yy), .second, .unset, .unset, .unset] [(.int p3)])) _
    refine XS.iconst X0.here hx rfl (hb hby at_12) ?_
    show Steps p.tables e below (s₁.setTop (mkF m 13 #[.val (.long b1), .second, .val (.long b2), .second, .val (.int p3), .val (.long xx), .second, .val (.long yy), .second, .unset, .unset, .unset] [(.int (1 : Int32)), (.int p3)])) _
    refine XS.iand X0.here hx rfl (hb hby at_13) rfl ?_
    exact kt
  by_cases hc : (p3 &&& (1 : Int32)) = (0 : Int32)
  · have K106 : ∀ t, Steps p.tables e below (s₁.setTop (mkF m 39 #[.val (.long b1), .second, .val (.long b2), .second, .val (.int p3), .val (.long xx), .second, .val (.long yy), .second, .val (.int (0 : Int32)), .unset, .unset] [(.int (3 : Int32))])) t → Steps p.tables e below (s₁.setTop (entryFrame m #[(.long b1), (.long b2), (.int p3)] maxLocals)) t := by
      intro t kt
      refine K105 t ?_
      show Steps p.tables e below (s₁.setTop (mkF m 14 #[.val (.long b1), .second, .val (.long b2), .second, .val (.int p3), .val (.long xx), .second, .val (.long yy), .second, .unset, .unset, .unset] [(.int (p3 &&& (1 : Int32)))])) _
      refine XS.ifYes X0.here hx rfl (pc0 := 14) (pc' := 21) rfl (hb hby at_14) rfl ((if0 _ _).trans (teq (hc : (p3 &&& (1 : Int32)) = (0 : Int32))).1) (by decide) (by decide) ?_
      show Steps p.tables e below (s₁.setTop (mkF m 21 #[.val (.long b1), .second, .val (.long b2), .second, .val (.int p3), .val (.long xx), .second, .val (.long yy), .second, .unset, .unset, .unset] [])) _
      refine XS.iconst X0.here hx rfl (hb hby at_21) ?_
      show Steps p.tables e below (s₁.setTop (mkF m 22 #[.val (.long b1), .second, .val (.long b2), .second, .val (.int p3), .val (.long xx), .second, .val (.long yy), .second, .unset, .unset, .unset] [(.int (0 : Int32))])) _
      refine XS.istore X0.here hx rfl (hb hby at_22) rfl (l' := #[.val (.long b1), .second, .val (.long b2), .second, .val (.int p3), .val (.long xx), .second, .val (.long yy), .second, .val (.int (0 : Int32)), .unset, .unset]) rfl ?_
      show Steps p.tables e below (s₁.setTop (mkF m 24 #[.val (.long b1), .second, .val (.long b2), .second, .val (.int p3), .val (.long xx), .second, .val (.long yy), .second, .val (.int (0 : Int32)), .unset, .unset] [])) _
      refine XS.iload X0.here hx rfl (hb hby at_24) rfl ?_
      show Steps p.tables e below (s₁.setTop (mkF m 26 #[.val (.long b1), .second, .val (.long b2), .second, .val (.int p3), .val (.long xx), .second, .val (.long yy), .second, .val (.int (0 : Int32)), .unset, .unset] [(.int (0 : Int32))])) _
      refine XS.ifYes X0.here hx rfl (pc0 := 26) (pc' := 38) rfl (hb hby at_26) rfl ((if0 _ _).trans (teq (by decide : (0 : Int32) = (0 : Int32))).1) (by decide) (by decide) ?_
      show Steps p.tables e below (s₁.setTop (mkF m 38 #[.val (.long b1), .second, .val (.long b2), .second, .val (.int p3), .val (.long xx), .second, .val (.long yy), .second, .val (.int (0 : Int32)), .unset, .unset] [])) _
      refine XS.iconst X0.here hx rfl (hb hby at_38) ?_
      exact kt
    obtain ⟨_, _, ⟨T107, L107, k107, n107⟩, -, X107, ⟨Lc107, hQ107, l107, y107, z107⟩, st107⟩ := Jvm.LawKit.callS X0 hx (y := (⟨"com/example/tranchery/tranchery/Cents", "zeros", "(I)Lcom/example/tranchery/tranchery/Cents;"⟩ : MethodName)) hown (mvT hZ (hw _ (List.mem_of_getElem? (i := 0) rfl))) (mvT hZ (hw _ (List.mem_of_getElem? (i := 1) rfl))) (mvT hZ (hw _ (List.mem_of_getElem? (i := 2) rfl))) (mvT hZ (hw _ (List.mem_of_getElem? (i := 3) rfl))) (by decide) (backOf (W := 0) (rmZ3 l Z a0 hw [] h0 n0 Z0) hZ (hw _ (List.mem_of_getElem? (i := 3) rfl)) (hw _ (List.mem_of_getElem? (i := 2) rfl)) (by decide) (by decide)) (g := (mkF m 39 #[.val (.long b1), .second, .val (.long b2), .second, .val (.int p3), .val (.long xx), .second, .val (.long yy), .second, .val (.int (0 : Int32)), .unset, .unset] [(.int (3 : Int32))])) rfl (by rw [hml]; rfl) (argsL := [(.int (3 : Int32))]) (rest := []) (lenOf pd_16 rfl) rfl (by show 2 * 0 + _ ≤ _; exact Nat.le_of_eq rfl) (hb hby at_39) (fun _ _ => ⟨rfl, e0, (by decide : 0 + 2 ≤ _), (by decide : 0 + 4 ≤ _)⟩)
    dsimp only [Pt.U, Pt.locs, Pt.cells, Pt.slots] at X107 l107 y107 z107 st107 hQ107
    subst l107 y107 z107
    obtain ⟨c0, t0, k0, rfl, C0, Nq107, Kq107⟩ := hQ107
    have f108 := Nat.le_trans Z0 Kq107.1
    have f109 := KK0.trans Kq107 all0
    have f110 := X00.keep Kq107 all0
    have N107 := Fr.app N0 Nq107
    have K111 : ∀ t, Steps p.tables e below (T107.setTop (mkF m 42 #[.val (.long b1), .second, .val (.long b2), .second, .val (.int p3), .val (.long xx), .second, .val (.long yy), .second, .val (.int (0 : Int32)), .unset, .unset] [(.ref c0)])) t → Steps p.tables e below (s₁.setTop (entryFrame m #[(.long b1), (.long b2), (.int p3)] maxLocals)) t := fun t kt => K106 t (st107 t kt)
    have K112 : ∀ t, Steps p.tables e below (T107.setTop (mkF m 46 #[.val (.long b1), .second, .val (.long b2), .second, .val (.int p3), .val (.long xx), .second, .val (.long yy), .second, .val (.int (0 : Int32)), .unset, .unset] [(.long xx), (.int (1 : Int32)), (.int (0 : Int32)), (.ref c0)])) t → Steps p.tables e below (s₁.setTop (entryFrame m #[(.long b1), (.long b2), (.int p3)] maxLocals)) t := by
      intro t kt
      refine K111 t ?_
      show Steps p.tables e below (T107.setTop (mkF m 42 #[.val (.long b1), .second, .val (.long b2), .second, .val (.int p3), .val (.long xx), .second, .val (.long yy), .second, .val (.int (0 : Int32)), .unset, .unset] [(.ref c0)])) _
      refine XS.iconst X107.here hx rfl (hb hby at_42) ?_
      show Steps p.tables e below (T107.setTop (mkF m 43 #[.val (.long b1), .second, .val (.long b2), .second, .val (.int p3), .val (.long xx), .second, .val (.long yy), .second, .val (.int (0 : Int32)), .unset, .unset] [(.int (0 : Int32)), (.ref c0)])) _
      refine XS.iconst X107.here hx rfl (hb hby at_43) ?_
      show Steps p.tables e below (T107.setTop (mkF m 44 #[.val (.long b1), .second, .val (.long b2), .second, .val (.int p3), .val (.long xx), .second, .val (.long yy), .second, .val (.int (0 : Int32)), .unset, .unset] [(.int (1 : Int32)), (.int (0 : Int32)), (.ref c0)])) _
      refine XS.lload X107.here hx rfl (hb hby at_44) rfl ?_
      exact kt
    obtain ⟨cq113, kq113, q113a, q113b, q113c⟩ := isOf hZ rfl C0.1
    obtain ⟨_, _, ⟨T113, L113, k113, n113⟩, -, X113, ⟨Lc113, hQ113, l113, y113, z113⟩, st113⟩ := X107.virtualBack hx (y := (⟨"com/example/tranchery/tranchery/Cents", "moved", "(IIJ)Lcom/example/tranchery/tranchery/Cents;"⟩ : MethodName)) (z := (⟨"com/example/tranchery/tranchery/Cents", "moved", "(IIJ)Lcom/example/tranchery/tranchery/Cents;"⟩ : MethodName)) hown (mvT hZ (hw _ (List.mem_of_getElem? (i := 15) rfl))) (mvT hZ (hw _ (List.mem_of_getElem? (i := 16) rfl))) (notFace_of_selects (args := #[]) (mvT hZ (hw _ (List.mem_of_getElem? (i := 18) rfl)))) (mvT hZ (hw _ (List.mem_of_getElem? (i := 18) rfl))) (mvT hZ (hw _ (List.mem_of_getElem? (i := 17) rfl))) (by decide) (backOf (W := 0) (rmM0 l Z a0 hw [] c0 t0 k0 xx (0 : Int64) (0 : Int64) (0 : Int64) T107.heap n0 f108 C0.1 C0.2.1 C0.2.2.1 C0.2.2.2 (own_f1 bx) (own_f2 bx)) hZ (hw _ (List.mem_of_getElem? (i := 19) rfl)) (hw _ (List.mem_of_getElem? (i := 2) rfl)) (by decide) (by decide)) q113a q113c (g := (mkF m 46 #[.val (.long b1), .second, .val (.long b2), .second, .val (.int p3), .val (.long xx), .second, .val (.long yy), .second, .val (.int (0 : Int32)), .unset, .unset] [(.long xx), (.int (1 : Int32)), (.int (0 : Int32)), (.ref c0)])) rfl (by rw [hml]; rfl) (Steps.refl _) (argsL := [(.int (0 : Int32)), (.int (1 : Int32)), (.long xx)]) (rest := []) (lenOf pd_17 rfl) rfl (by show 2 * 0 + _ ≤ _; exact Nat.le_of_eq rfl) (hb hby at_46) (fun _ _ => ⟨rfl, rfl, (by decide : 2 + 2 ≤ _), (by decide : 4 + 4 ≤ _)⟩)
    dsimp only [Pt.U, Pt.locs, Pt.cells, Pt.slots] at X113 l113 y113 z113 st113 hQ113
    subst l113 y113 z113
    obtain ⟨c1, t1, k1, rfl, C1, Nq113, Kq113⟩ := hQ113
    have f114 := Nat.le_trans f108 Kq113.1
    have f115 := f109.trans Kq113 all0
    have f116 := f110.keep Kq113 all0
    have N113 := Fr.app N107 Nq113
    have K117 : ∀ t, Steps p.tables e below (T113.setTop (mkF m 49 #[.val (.long b1), .second, .val (.long b2), .second, .val (.int p3), .val (.long xx), .second, .val (.long yy), .second, .val (.int (0 : Int32)), .unset, .unset] [(.ref c1)])) t → Steps p.tables e below (s₁.setTop (entryFrame m #[(.long b1), (.long b2), (.int p3)] maxLocals)) t := fun t kt => K112 t (st113.trans kt)
    have K118 : ∀ t, Steps p.tables e below (T113.setTop (mkF m 53 #[.val (.long b1), .second, .val (.long b2), .second, .val (.int p3), .val (.long xx), .second, .val (.long yy), .second, .val (.int (0 : Int32)), .unset, .unset] [(.long yy), (.int (0 : Int32)), (.int (2 : Int32)), (.ref c1)])) t → Steps p.tables e below (s₁.setTop (entryFrame m #[(.long b1), (.long b2), (.int p3)] maxLocals)) t := by
      intro t kt
      refine K117 t ?_
      show Steps p.tables e below (T113.setTop (mkF m 49 #[.val (.long b1), .second, .val (.long b2), .second, .val (.int p3), .val (.long xx), .second, .val (.long yy), .second, .val (.int (0 : Int32)), .unset, .unset] [(.ref c1)])) _
      refine XS.iconst X113.here hx rfl (hb hby at_49) ?_
      show Steps p.tables e below (T113.setTop (mkF m 50 #[.val (.long b1), .second, .val (.long b2), .second, .val (.int p3), .val (.long xx), .second, .val (.long yy), .second, .val (.int (0 : Int32)), .unset, .unset] [(.int (2 : Int32)), (.ref c1)])) _
      refine XS.iconst X113.here hx rfl (hb hby at_50) ?_
      show Steps p.tables e below (T113.setTop (mkF m 51 #[.val (.long b1), .second, .val (.long b2), .second, .val (.int p3), .val (.long xx), .second, .val (.long yy), .second, .val (.int (0 : Int32)), .unset, .unset] [(.int (0 : Int32)), (.int (2 : Int32)), (.ref c1)])) _
      refine XS.lload X113.here hx rfl (hb hby at_51) rfl ?_
      exact kt
    obtain ⟨cq119, kq119, q119a, q119b, q119c⟩ := isOf hZ rfl C1.1
    obtain ⟨_, _, ⟨T119, L119, k119, n119⟩, -, X119, ⟨Lc119, hQ119, l119, y119, z119⟩, st119⟩ := X113.virtualBack hx (y := (⟨"com/example/tranchery/tranchery/Cents", "moved", "(IIJ)Lcom/example/tranchery/tranchery/Cents;"⟩ : MethodName)) (z := (⟨"com/example/tranchery/tranchery/Cents", "moved", "(IIJ)Lcom/example/tranchery/tranchery/Cents;"⟩ : MethodName)) hown (mvT hZ (hw _ (List.mem_of_getElem? (i := 15) rfl))) (mvT hZ (hw _ (List.mem_of_getElem? (i := 16) rfl))) (notFace_of_selects (args := #[]) (mvT hZ (hw _ (List.mem_of_getElem? (i := 18) rfl)))) (mvT hZ (hw _ (List.mem_of_getElem? (i := 18) rfl))) (mvT hZ (hw _ (List.mem_of_getElem? (i := 17) rfl))) (by decide) (backOf (W := 0) (rmM2 l Z a0 hw [] c1 t1 k1 yy ((0 : Int64) - xx) ((0 : Int64) + xx) (0 : Int64) T113.heap n0 f114 C1.1 C1.2.1 C1.2.2.1 C1.2.2.2 (own_f1 by_) (own_f3 bx by_)) hZ (hw _ (List.mem_of_getElem? (i := 19) rfl)) (hw _ (List.mem_of_getElem? (i := 2) rfl)) (by decide) (by decide)) q119a q119c (g := (mkF m 53 #[.val (.long b1), .second, .val (.long b2), .second, .val (.int p3), .val (.long xx), .second, .val (.long yy), .second, .val (.int (0 : Int32)), .unset, .unset] [(.long yy), (.int (0 : Int32)), (.int (2 : Int32)), (.ref c1)])) rfl (by rw [hml]; rfl) (Steps.refl _) (argsL := [(.int (2 : Int32)), (.int (0 : Int32)), (.long yy)]) (rest := []) (lenOf pd_17 rfl) rfl (by show 2 * 0 + _ ≤ _; exact Nat.le_of_eq rfl) (hb hby at_53) (fun _ _ => ⟨rfl, rfl, (by decide : 4 + 2 ≤ _), (by decide : 8 + 4 ≤ _)⟩)
    dsimp only [Pt.U, Pt.locs, Pt.cells, Pt.slots] at X119 l119 y119 z119 st119 hQ119
    subst l119 y119 z119
    obtain ⟨c2, t2, k2, rfl, C2, Nq119, Kq119⟩ := hQ119
    have f120 := Nat.le_trans f114 Kq119.1
    have f121 := f115.trans Kq119 all0
    have f122 := f116.keep Kq119 all0
    have N119 := Fr.app N113 Nq119
    have K123 : ∀ t, Steps p.tables e below (T119.setTop (mkF m 56 #[.val (.long b1), .second, .val (.long b2), .second, .val (.int p3), .val (.long xx), .second, .val (.long yy), .second, .val (.int (0 : Int32)), .unset, .unset] [(.ref c2)])) t → Steps p.tables e below (s₁.setTop (entryFrame m #[(.long b1), (.long b2), (.int p3)] maxLocals)) t := fun t kt => K118 t (st119.trans kt)
    have q0 := own_m0 bx by_
    have q1 := own_m1 bx
    have q2 := own_m2 by_
    have K124 : ∀ t, Steps p.tables e below (T119.setTop (mkF m 60 #[.val (.long b1), .second, .val (.long b2), .second, .val (.int p3), .val (.long xx), .second, .val (.long yy), .second, .val (.int (0 : Int32)), .val (.ref c2), .unset] [(.ref c2)])) t → Steps p.tables e below (s₁.setTop (entryFrame m #[(.long b1), (.long b2), (.int p3)] maxLocals)) t := by
      intro t kt
      refine K123 t ?_
      show Steps p.tables e below (T119.setTop (mkF m 56 #[.val (.long b1), .second, .val (.long b2), .second, .val (.int p3), .val (.long xx), .second, .val (.long yy), .second, .val (.int (0 : Int32)), .unset, .unset] [(.ref c2)])) _
      refine XS.astore X119.here hx rfl (hb hby at_56) rfl rfl (l' := #[.val (.long b1), .second, .val (.long b2), .second, .val (.int p3), .val (.long xx), .second, .val (.long yy), .second, .val (.int (0 : Int32)), .val (.ref c2), .unset]) rfl ?_
      show Steps p.tables e below (T119.setTop (mkF m 58 #[.val (.long b1), .second, .val (.long b2), .second, .val (.int p3), .val (.long xx), .second, .val (.long yy), .second, .val (.int (0 : Int32)), .val (.ref c2), .unset] [])) _
      refine XS.aload X119.here hx rfl (hb hby at_58) rfl rfl ?_
      exact kt
    obtain ⟨cq125, kq125, q125a, q125b, q125c⟩ := isOf hZ rfl C2.1
    obtain ⟨_, _, ⟨T125, L125, k125, n125⟩, -, X125, ⟨Lc125, hQ125, l125, y125, z125⟩, st125⟩ := X119.virtualBack hx (y := (⟨"com/example/tranchery/tranchery/Cents", "amounts", "()Ljava/util/List;"⟩ : MethodName)) (z := (⟨"com/example/tranchery/tranchery/Cents", "amounts", "()Ljava/util/List;"⟩ : MethodName)) hown (mvT hZ (hw _ (List.mem_of_getElem? (i := 36) rfl))) (mvT hZ (hw _ (List.mem_of_getElem? (i := 37) rfl))) (notFace_of_selects (args := #[]) (mvT hZ (hw _ (List.mem_of_getElem? (i := 39) rfl)))) (mvT hZ (hw _ (List.mem_of_getElem? (i := 39) rfl))) (mvT hZ (hw _ (List.mem_of_getElem? (i := 38) rfl))) (by decide) (backOf (W := 0) (rmLS l Z a0 hw [] c2 t2 k2 ((0 : Int64) - xx + yy) ((0 : Int64) + xx) ((0 : Int64) - yy) az z2 cz T119.heap n0 f120 C2.1 C2.2.1 C2.2.2.1 C2.2.2.2 q0 q1 q2 ZZ f122) hZ (hw _ (List.mem_of_getElem? (i := 40) rfl)) (hw _ (List.mem_of_getElem? (i := 2) rfl)) (by decide) (by decide)) q125a q125c (g := (mkF m 60 #[.val (.long b1), .second, .val (.long b2), .second, .val (.int p3), .val (.long xx), .second, .val (.long yy), .second, .val (.int (0 : Int32)), .val (.ref c2), .unset] [(.ref c2)])) rfl (by rw [hml]; rfl) (Steps.refl _) (argsL := []) (rest := []) (lenOf pd_18 rfl) rfl (by show 2 * 0 + _ ≤ _; exact Nat.le_of_eq rfl) (hb hby at_60) (fun _ _ => ⟨rfl, rfl, (by decide : 6 + 5 ≤ _), (by decide : 12 + 21 ≤ _)⟩)
    dsimp only [Pt.U, Pt.locs, Pt.cells, Pt.slots] at X125 l125 y125 z125 st125 hQ125
    subst l125 y125 z125
    obtain ⟨ls, tl, kl, el0, el1, el2, rfl, El, Dl, Sl, Al, ⟨iv0, ri0, B0⟩, ⟨iv1, ri1, B1⟩, ⟨iv2, ri2, B2⟩, Nq125, Kq125⟩ := hQ125
    have f126 := Nat.le_trans f120 Kq125.1
    have f127 := f121.trans Kq125 all0
    have f128 := f122.keep Kq125 all0
    have N125 := Fr.app N119 Nq125
    have K129 : ∀ t, Steps p.tables e below (T125.setTop (mkF m 63 #[.val (.long b1), .second, .val (.long b2), .second, .val (.int p3), .val (.long xx), .second, .val (.long yy), .second, .val (.int (0 : Int32)), .val (.ref c2), .unset] [(.ref ls)])) t → Steps p.tables e below (s₁.setTop (entryFrame m #[(.long b1), (.long b2), (.int p3)] maxLocals)) t := fun t kt => K124 t (st125.trans kt)
    obtain ⟨_, _, ⟨T130, L130, k130, n130⟩, -, X130, ⟨Lc130, hQ130, l130, y130, z130⟩, st130⟩ := Jvm.LawKit.callS X125 hx (y := (⟨"com/example/tranchery/tranchery/Cents", "of", "(Ljava/util/List;)Lcom/example/tranchery/tranchery/Cents;"⟩ : MethodName)) hown (mvT hZ (hw _ (List.mem_of_getElem? (i := 120) rfl))) (mvT hZ (hw _ (List.mem_of_getElem? (i := 121) rfl))) (mvT hZ (hw _ (List.mem_of_getElem? (i := 2) rfl))) (mvT hZ (hw _ (List.mem_of_getElem? (i := 122) rfl))) (by decide) (backOf (W := 0) (rmOF l Z a0 hw [] ls tl kl el0 el1 el2 ((0 : Int64) - xx + yy) ((0 : Int64) + xx) ((0 : Int64) - yy) iv0 iv1 iv2 T125.heap n0 f126 El Dl Sl Al q0 ri0 B0 q1 ri1 B1 q2 ri2 B2) hZ (hw _ (List.mem_of_getElem? (i := 122) rfl)) (hw _ (List.mem_of_getElem? (i := 2) rfl)) (by decide) (by decide)) (g := (mkF m 63 #[.val (.long b1), .second, .val (.long b2), .second, .val (.int p3), .val (.long xx), .second, .val (.long yy), .second, .val (.int (0 : Int32)), .val (.ref c2), .unset] [(.ref ls)])) rfl (by rw [hml]; rfl) (argsL := [(.ref ls)]) (rest := []) (lenOf pd_19 rfl) rfl (by show 2 * 0 + _ ≤ _; exact Nat.le_of_eq rfl) (hb hby at_63) (fun _ _ => ⟨rfl, rfl, (by decide : 11 + 5 ≤ _), (by decide : 33 + 19 ≤ _)⟩)
    dsimp only [Pt.U, Pt.locs, Pt.cells, Pt.slots] at X130 l130 y130 z130 st130 hQ130
    subst l130 y130 z130
    obtain ⟨c9, t9, k9, rfl, C9, Nq130, Kq130⟩ := hQ130
    have f131 := Nat.le_trans f126 Kq130.1
    have f132 := f127.trans Kq130 all0
    have f133 := f128.keep Kq130 all0
    have N130 := Fr.app N125 Nq130
    have K134 : ∀ t, Steps p.tables e below (T130.setTop (mkF m 66 #[.val (.long b1), .second, .val (.long b2), .second, .val (.int p3), .val (.long xx), .second, .val (.long yy), .second, .val (.int (0 : Int32)), .val (.ref c2), .unset] [(.ref c9)])) t → Steps p.tables e below (s₁.setTop (entryFrame m #[(.long b1), (.long b2), (.int p3)] maxLocals)) t := fun t kt => K129 t (st130 t kt)
    have K135 : ∀ t, Steps p.tables e below (T130.setTop (mkF m 89 #[.val (.long b1), .second, .val (.long b2), .second, .val (.int p3), .val (.long xx), .second, .val (.long yy), .second, .val (.int (0 : Int32)), .val (.ref c2), .val (.ref c9)] [(.ref c9)])) t → Steps p.tables e below (s₁.setTop (entryFrame m #[(.long b1), (.long b2), (.int p3)] maxLocals)) t := by
      intro t kt
      refine K134 t ?_
      show Steps p.tables e below (T130.setTop (mkF m 66 #[.val (.long b1), .second, .val (.long b2), .second, .val (.int p3), .val (.long xx), .second, .val (.long yy), .second, .val (.int (0 : Int32)), .val (.ref c2), .unset] [(.ref c9)])) _
      refine XS.astore X130.here hx rfl (hb hby at_66) rfl rfl (l' := #[.val (.long b1), .second, .val (.long b2), .second, .val (.int p3), .val (.long xx), .second, .val (.long yy), .second, .val (.int (0 : Int32)), .val (.ref c2), .val (.ref c9)]) rfl ?_
      show Steps p.tables e below (T130.setTop (mkF m 68 #[.val (.long b1), .second, .val (.long b2), .second, .val (.int p3), .val (.long xx), .second, .val (.long yy), .second, .val (.int (0 : Int32)), .val (.ref c2), .val (.ref c9)] [])) _
      refine XS.iload X130.here hx rfl (hb hby at_68) rfl ?_
      show Steps p.tables e below (T130.setTop (mkF m 70 #[.val (.long b1), .second, .val (.long b2), .second, .val (.int p3), .val (.long xx), .second, .val (.long yy), .second, .val (.int (0 : Int32)), .val (.ref c2), .val (.ref c9)] [(.int (0 : Int32))])) _
      refine XS.ifYes X130.here hx rfl (pc0 := 70) (pc' := 87) rfl (hb hby at_70) rfl ((if0 _ _).trans (teq (by decide : (0 : Int32) = (0 : Int32))).1) (by decide) (by decide) ?_
      show Steps p.tables e below (T130.setTop (mkF m 87 #[.val (.long b1), .second, .val (.long b2), .second, .val (.int p3), .val (.long xx), .second, .val (.long yy), .second, .val (.int (0 : Int32)), .val (.ref c2), .val (.ref c9)] [])) _
      refine XS.aload X130.here hx rfl (hb hby at_87) rfl rfl ?_
      exact kt
    obtain ⟨cq136, kq136, q136a, q136b, q136c⟩ := isOf hZ rfl C9.1
    obtain ⟨_, _, ⟨T136, L136, k136, n136⟩, -, X136, ⟨Lc136, hQ136, l136, y136, z136⟩, st136⟩ := X130.virtualBack hx (y := (⟨"com/example/tranchery/tranchery/Cents", "size", "()I"⟩ : MethodName)) (z := (⟨"com/example/tranchery/tranchery/Cents", "size", "()I"⟩ : MethodName)) hown (mvT hZ (hw _ (List.mem_of_getElem? (i := 171) rfl))) (mvT hZ (hw _ (List.mem_of_getElem? (i := 172) rfl))) (notFace_of_selects (args := #[]) (mvT hZ (hw _ (List.mem_of_getElem? (i := 174) rfl)))) (mvT hZ (hw _ (List.mem_of_getElem? (i := 174) rfl))) (mvT hZ (hw _ (List.mem_of_getElem? (i := 173) rfl))) (by decide) (backOf (W := 0) (rmCZ3 l Z a0 hw [] c9 t9 k9 ((0 : Int64) - xx + yy) ((0 : Int64) + xx) ((0 : Int64) - yy) T130.heap n0 f131 C9.1 C9.2.1 C9.2.2.1 C9.2.2.2) hZ (hw _ (List.mem_of_getElem? (i := 175) rfl)) (hw _ (List.mem_of_getElem? (i := 2) rfl)) (by decide) (by decide)) q136a q136c (g := (mkF m 89 #[.val (.long b1), .second, .val (.long b2), .second, .val (.int p3), .val (.long xx), .second, .val (.long yy), .second, .val (.int (0 : Int32)), .val (.ref c2), .val (.ref c9)] [(.ref c9)])) rfl (by rw [hml]; rfl) (Steps.refl _) (argsL := []) (rest := []) (lenOf pd_14 rfl) rfl (by show 2 * 0 + _ ≤ _; exact Nat.le_of_eq rfl) (hb hby at_89) (fun _ _ => ⟨rfl, rfl, (by decide : 16 + 0 ≤ _), (by decide : 52 + 0 ≤ _)⟩)
    dsimp only [Pt.U, Pt.locs, Pt.cells, Pt.slots] at X136 l136 y136 z136 st136 hQ136
    subst l136 y136 z136
    obtain ⟨rfl, Nq136, e136⟩ := hQ136
    have N136 := Fr.app N130 Nq136
    have K137 : ∀ t, Steps p.tables e below (T136.setTop (mkF m 92 #[.val (.long b1), .second, .val (.long b2), .second, .val (.int p3), .val (.long xx), .second, .val (.long yy), .second, .val (.int (0 : Int32)), .val (.ref c2), .val (.ref c9)] [(.int (3 : Int32))])) t → Steps p.tables e below (s₁.setTop (entryFrame m #[(.long b1), (.long b2), (.int p3)] maxLocals)) t := fun t kt => K135 t (st136.trans kt)
    have K138 : ∀ t, Steps p.tables e below (T136.setTop (mkF m 99 #[.val (.long b1), .second, .val (.long b2), .second, .val (.int p3), .val (.long xx), .second, .val (.long yy), .second, .val (.int (0 : Int32)), .val (.ref c2), .val (.ref c9)] [(.int (0 : Int32)), (.ref c9)])) t → Steps p.tables e below (s₁.setTop (entryFrame m #[(.long b1), (.long b2), (.int p3)] maxLocals)) t := by
      intro t kt
      refine K137 t ?_
      show Steps p.tables e below (T136.setTop (mkF m 92 #[.val (.long b1), .second, .val (.long b2), .second, .val (.int p3), .val (.long xx), .second, .val (.long yy), .second, .val (.int (0 : Int32)), .val (.ref c2), .val (.ref c9)] [(.int (3 : Int32))])) _
      refine XS.iconst X136.here hx rfl (hb hby at_92) ?_
      show Steps p.tables e below (T136.setTop (mkF m 93 #[.val (.long b1), .second, .val (.long b2), .second, .val (.int p3), .val (.long xx), .second, .val (.long yy), .second, .val (.int (0 : Int32)), .val (.ref c2), .val (.ref c9)] [(.int (3 : Int32)), (.int (3 : Int32))])) _
      refine XS.icmpNo X136.here hx rfl (hb hby at_93) rfl (teq (by decide : (3 : Int32) = (3 : Int32))).2 ?_
      show Steps p.tables e below (T136.setTop (mkF m 96 #[.val (.long b1), .second, .val (.long b2), .second, .val (.int p3), .val (.long xx), .second, .val (.long yy), .second, .val (.int (0 : Int32)), .val (.ref c2), .val (.ref c9)] [])) _
      refine XS.aload X136.here hx rfl (hb hby at_96) rfl rfl ?_
      show Steps p.tables e below (T136.setTop (mkF m 98 #[.val (.long b1), .second, .val (.long b2), .second, .val (.int p3), .val (.long xx), .second, .val (.long yy), .second, .val (.int (0 : Int32)), .val (.ref c2), .val (.ref c9)] [(.ref c9)])) _
      refine XS.iconst X136.here hx rfl (hb hby at_98) ?_
      exact kt
    obtain ⟨cq139, kq139, q139a, q139b, q139c⟩ := isOf hZ e136 C9.1
    obtain ⟨_, _, ⟨T139, L139, k139, n139⟩, -, X139, ⟨Lc139, hQ139, l139, y139, z139⟩, st139⟩ := X136.virtualBack hx (y := (⟨"com/example/tranchery/tranchery/Cents", "cents", "(I)J"⟩ : MethodName)) (z := (⟨"com/example/tranchery/tranchery/Cents", "cents", "(I)J"⟩ : MethodName)) hown (mvT hZ (hw _ (List.mem_of_getElem? (i := 176) rfl))) (mvT hZ (hw _ (List.mem_of_getElem? (i := 177) rfl))) (notFace_of_selects (args := #[]) (mvT hZ (hw _ (List.mem_of_getElem? (i := 179) rfl)))) (mvT hZ (hw _ (List.mem_of_getElem? (i := 179) rfl))) (mvT hZ (hw _ (List.mem_of_getElem? (i := 178) rfl))) (by decide) (backOf (W := 0) (rmCC0 l Z a0 hw [] c9 t9 k9 ((0 : Int64) - xx + yy) ((0 : Int64) + xx) ((0 : Int64) - yy) T130.heap n0 f131 C9.1 C9.2.1 C9.2.2.1 C9.2.2.2) hZ (hw _ (List.mem_of_getElem? (i := 180) rfl)) (hw _ (List.mem_of_getElem? (i := 2) rfl)) (by decide) (by decide)) q139a q139c (g := (mkF m 99 #[.val (.long b1), .second, .val (.long b2), .second, .val (.int p3), .val (.long xx), .second, .val (.long yy), .second, .val (.int (0 : Int32)), .val (.ref c2), .val (.ref c9)] [(.int (0 : Int32)), (.ref c9)])) rfl (by rw [hml]; rfl) (Steps.refl _) (argsL := [(.int (0 : Int32))]) (rest := []) (lenOf pd_20 rfl) rfl (by show 2 * 0 + _ ≤ _; exact Nat.le_of_eq rfl) (hb hby at_99) (fun _ _ => ⟨rfl, e136, (by decide : 16 + 0 ≤ _), (by decide : 52 + 0 ≤ _)⟩)
    dsimp only [Pt.U, Pt.locs, Pt.cells, Pt.slots] at X139 l139 y139 z139 st139 hQ139
    subst l139 y139 z139
    obtain ⟨rfl, Nq139, e139⟩ := hQ139
    have N139 := Fr.app N136 Nq139
    have K140 : ∀ t, Steps p.tables e below (T139.setTop (mkF m 102 #[.val (.long b1), .second, .val (.long b2), .second, .val (.int p3), .val (.long xx), .second, .val (.long yy), .second, .val (.int (0 : Int32)), .val (.ref c2), .val (.ref c9)] [(.long ((0 : Int64) - xx + yy))])) t → Steps p.tables e below (s₁.setTop (entryFrame m #[(.long b1), (.long b2), (.int p3)] maxLocals)) t := fun t kt => K138 t (st139.trans kt)
    have K141 : ∀ t, Steps p.tables e below (T139.setTop (mkF m 114 #[.val (.long b1), .second, .val (.long b2), .second, .val (.int p3), .val (.long xx), .second, .val (.long yy), .second, .val (.int (0 : Int32)), .val (.ref c2), .val (.ref c9)] [(.int (1 : Int32)), (.ref c9)])) t → Steps p.tables e below (s₁.setTop (entryFrame m #[(.long b1), (.long b2), (.int p3)] maxLocals)) t := by
      intro t kt
      refine K140 t ?_
      show Steps p.tables e below (T139.setTop (mkF m 102 #[.val (.long b1), .second, .val (.long b2), .second, .val (.int p3), .val (.long xx), .second, .val (.long yy), .second, .val (.int (0 : Int32)), .val (.ref c2), .val (.ref c9)] [(.long ((0 : Int64) - xx + yy))])) _
      refine XS.lload X139.here hx rfl (hb hby at_102) rfl ?_
      show Steps p.tables e below (T139.setTop (mkF m 104 #[.val (.long b1), .second, .val (.long b2), .second, .val (.int p3), .val (.long xx), .second, .val (.long yy), .second, .val (.int (0 : Int32)), .val (.ref c2), .val (.ref c9)] [(.long yy), (.long ((0 : Int64) - xx + yy))])) _
      refine XS.lload X139.here hx rfl (hb hby at_104) rfl ?_
      show Steps p.tables e below (T139.setTop (mkF m 106 #[.val (.long b1), .second, .val (.long b2), .second, .val (.int p3), .val (.long xx), .second, .val (.long yy), .second, .val (.int (0 : Int32)), .val (.ref c2), .val (.ref c9)] [(.long xx), (.long yy), (.long ((0 : Int64) - xx + yy))])) _
      refine XS.lsub X139.here hx rfl (hb hby at_106) rfl ?_
      show Steps p.tables e below (T139.setTop (mkF m 107 #[.val (.long b1), .second, .val (.long b2), .second, .val (.int p3), .val (.long xx), .second, .val (.long yy), .second, .val (.int (0 : Int32)), .val (.ref c2), .val (.ref c9)] [(.long (yy - xx)), (.long ((0 : Int64) - xx + yy))])) _
      refine XS.lcmp X139.here hx rfl (hb hby at_107) rfl ?_
      show Steps p.tables e below (T139.setTop (mkF m 108 #[.val (.long b1), .second, .val (.long b2), .second, .val (.int p3), .val (.long xx), .second, .val (.long yy), .second, .val (.int (0 : Int32)), .val (.ref c2), .val (.ref c9)] [(.int (lcmpW ((0 : Int64) - xx + yy) (yy - xx)))])) _
      refine XS.ifNo X139.here hx rfl (hb hby at_108) rfl ((if0 _ _).trans (teq ((lw_eq _ _).mpr (own_e0 xx yy) : (lcmpW ((0 : Int64) - xx + yy) (yy - xx)) = (0 : Int32))).2) ?_
      show Steps p.tables e below (T139.setTop (mkF m 111 #[.val (.long b1), .second, .val (.long b2), .second, .val (.int p3), .val (.long xx), .second, .val (.long yy), .second, .val (.int (0 : Int32)), .val (.ref c2), .val (.ref c9)] [])) _
      refine XS.aload X139.here hx rfl (hb hby at_111) rfl rfl ?_
      show Steps p.tables e below (T139.setTop (mkF m 113 #[.val (.long b1), .second, .val (.long b2), .second, .val (.int p3), .val (.long xx), .second, .val (.long yy), .second, .val (.int (0 : Int32)), .val (.ref c2), .val (.ref c9)] [(.ref c9)])) _
      refine XS.iconst X139.here hx rfl (hb hby at_113) ?_
      exact kt
    obtain ⟨cq142, kq142, q142a, q142b, q142c⟩ := isOf hZ e139 C9.1
    obtain ⟨_, _, ⟨T142, L142, k142, n142⟩, -, X142, ⟨Lc142, hQ142, l142, y142, z142⟩, st142⟩ := X139.virtualBack hx (y := (⟨"com/example/tranchery/tranchery/Cents", "cents", "(I)J"⟩ : MethodName)) (z := (⟨"com/example/tranchery/tranchery/Cents", "cents", "(I)J"⟩ : MethodName)) hown (mvT hZ (hw _ (List.mem_of_getElem? (i := 176) rfl))) (mvT hZ (hw _ (List.mem_of_getElem? (i := 177) rfl))) (notFace_of_selects (args := #[]) (mvT hZ (hw _ (List.mem_of_getElem? (i := 179) rfl)))) (mvT hZ (hw _ (List.mem_of_getElem? (i := 179) rfl))) (mvT hZ (hw _ (List.mem_of_getElem? (i := 178) rfl))) (by decide) (backOf (W := 0) (rmCC1 l Z a0 hw [] c9 t9 k9 ((0 : Int64) - xx + yy) ((0 : Int64) + xx) ((0 : Int64) - yy) T130.heap n0 f131 C9.1 C9.2.1 C9.2.2.1 C9.2.2.2) hZ (hw _ (List.mem_of_getElem? (i := 180) rfl)) (hw _ (List.mem_of_getElem? (i := 2) rfl)) (by decide) (by decide)) q142a q142c (g := (mkF m 114 #[.val (.long b1), .second, .val (.long b2), .second, .val (.int p3), .val (.long xx), .second, .val (.long yy), .second, .val (.int (0 : Int32)), .val (.ref c2), .val (.ref c9)] [(.int (1 : Int32)), (.ref c9)])) rfl (by rw [hml]; rfl) (Steps.refl _) (argsL := [(.int (1 : Int32))]) (rest := []) (lenOf pd_20 rfl) rfl (by show 2 * 0 + _ ≤ _; exact Nat.le_of_eq rfl) (hb hby at_114) (fun _ _ => ⟨rfl, e139, (by decide : 16 + 0 ≤ _), (by decide : 52 + 0 ≤ _)⟩)
    dsimp only [Pt.U, Pt.locs, Pt.cells, Pt.slots] at X142 l142 y142 z142 st142 hQ142
    subst l142 y142 z142
    obtain ⟨rfl, Nq142, e142⟩ := hQ142
    have N142 := Fr.app N139 Nq142
    have K143 : ∀ t, Steps p.tables e below (T142.setTop (mkF m 117 #[.val (.long b1), .second, .val (.long b2), .second, .val (.int p3), .val (.long xx), .second, .val (.long yy), .second, .val (.int (0 : Int32)), .val (.ref c2), .val (.ref c9)] [(.long ((0 : Int64) + xx))])) t → Steps p.tables e below (s₁.setTop (entryFrame m #[(.long b1), (.long b2), (.int p3)] maxLocals)) t := fun t kt => K141 t (st142.trans kt)
    have K144 : ∀ t, Steps p.tables e below (T142.setTop (mkF m 126 #[.val (.long b1), .second, .val (.long b2), .second, .val (.int p3), .val (.long xx), .second, .val (.long yy), .second, .val (.int (0 : Int32)), .val (.ref c2), .val (.ref c9)] [(.int (2 : Int32)), (.ref c9)])) t → Steps p.tables e below (s₁.setTop (entryFrame m #[(.long b1), (.long b2), (.int p3)] maxLocals)) t := by
      intro t kt
      refine K143 t ?_
      show Steps p.tables e below (T142.setTop (mkF m 117 #[.val (.long b1), .second, .val (.long b2), .second, .val (.int p3), .val (.long xx), .second, .val (.long yy), .second, .val (.int (0 : Int32)), .val (.ref c2), .val (.ref c9)] [(.long ((0 : Int64) + xx))])) _
      refine XS.lload X142.here hx rfl (hb hby at_117) rfl ?_
      show Steps p.tables e below (T142.setTop (mkF m 119 #[.val (.long b1), .second, .val (.long b2), .second, .val (.int p3), .val (.long xx), .second, .val (.long yy), .second, .val (.int (0 : Int32)), .val (.ref c2), .val (.ref c9)] [(.long xx), (.long ((0 : Int64) + xx))])) _
      refine XS.lcmp X142.here hx rfl (hb hby at_119) rfl ?_
      show Steps p.tables e below (T142.setTop (mkF m 120 #[.val (.long b1), .second, .val (.long b2), .second, .val (.int p3), .val (.long xx), .second, .val (.long yy), .second, .val (.int (0 : Int32)), .val (.ref c2), .val (.ref c9)] [(.int (lcmpW ((0 : Int64) + xx) xx))])) _
      refine XS.ifNo X142.here hx rfl (hb hby at_120) rfl ((if0 _ _).trans (teq ((lw_eq _ _).mpr (own_e1 xx yy) : (lcmpW ((0 : Int64) + xx) xx) = (0 : Int32))).2) ?_
      show Steps p.tables e below (T142.setTop (mkF m 123 #[.val (.long b1), .second, .val (.long b2), .second, .val (.int p3), .val (.long xx), .second, .val (.long yy), .second, .val (.int (0 : Int32)), .val (.ref c2), .val (.ref c9)] [])) _
      refine XS.aload X142.here hx rfl (hb hby at_123) rfl rfl ?_
      show Steps p.tables e below (T142.setTop (mkF m 125 #[.val (.long b1), .second, .val (.long b2), .second, .val (.int p3), .val (.long xx), .second, .val (.long yy), .second, .val (.int (0 : Int32)), .val (.ref c2), .val (.ref c9)] [(.ref c9)])) _
      refine XS.iconst X142.here hx rfl (hb hby at_125) ?_
      exact kt
    obtain ⟨cq145, kq145, q145a, q145b, q145c⟩ := isOf hZ e142 C9.1
    obtain ⟨_, _, ⟨T145, L145, k145, n145⟩, -, X145, ⟨Lc145, hQ145, l145, y145, z145⟩, st145⟩ := X142.virtualBack hx (y := (⟨"com/example/tranchery/tranchery/Cents", "cents", "(I)J"⟩ : MethodName)) (z := (⟨"com/example/tranchery/tranchery/Cents", "cents", "(I)J"⟩ : MethodName)) hown (mvT hZ (hw _ (List.mem_of_getElem? (i := 176) rfl))) (mvT hZ (hw _ (List.mem_of_getElem? (i := 177) rfl))) (notFace_of_selects (args := #[]) (mvT hZ (hw _ (List.mem_of_getElem? (i := 179) rfl)))) (mvT hZ (hw _ (List.mem_of_getElem? (i := 179) rfl))) (mvT hZ (hw _ (List.mem_of_getElem? (i := 178) rfl))) (by decide) (backOf (W := 0) (rmCC2 l Z a0 hw [] c9 t9 k9 ((0 : Int64) - xx + yy) ((0 : Int64) + xx) ((0 : Int64) - yy) T130.heap n0 f131 C9.1 C9.2.1 C9.2.2.1 C9.2.2.2) hZ (hw _ (List.mem_of_getElem? (i := 180) rfl)) (hw _ (List.mem_of_getElem? (i := 2) rfl)) (by decide) (by decide)) q145a q145c (g := (mkF m 126 #[.val (.long b1), .second, .val (.long b2), .second, .val (.int p3), .val (.long xx), .second, .val (.long yy), .second, .val (.int (0 : Int32)), .val (.ref c2), .val (.ref c9)] [(.int (2 : Int32)), (.ref c9)])) rfl (by rw [hml]; rfl) (Steps.refl _) (argsL := [(.int (2 : Int32))]) (rest := []) (lenOf pd_20 rfl) rfl (by show 2 * 0 + _ ≤ _; exact Nat.le_of_eq rfl) (hb hby at_126) (fun _ _ => ⟨rfl, e142, (by decide : 16 + 0 ≤ _), (by decide : 52 + 0 ≤ _)⟩)
    dsimp only [Pt.U, Pt.locs, Pt.cells, Pt.slots] at X145 l145 y145 z145 st145 hQ145
    subst l145 y145 z145
    obtain ⟨rfl, Nq145, e145⟩ := hQ145
    have N145 := Fr.app N142 Nq145
    have K146 : ∀ t, Steps p.tables e below (T145.setTop (mkF m 129 #[.val (.long b1), .second, .val (.long b2), .second, .val (.int p3), .val (.long xx), .second, .val (.long yy), .second, .val (.int (0 : Int32)), .val (.ref c2), .val (.ref c9)] [(.long ((0 : Int64) - yy))])) t → Steps p.tables e below (s₁.setTop (entryFrame m #[(.long b1), (.long b2), (.int p3)] maxLocals)) t := fun t kt => K144 t (st145.trans kt)
    have K147 : ∀ t, Steps p.tables e below (T145.setTop (mkF m 141 #[.val (.long b1), .second, .val (.long b2), .second, .val (.int p3), .val (.long xx), .second, .val (.long yy), .second, .val (.int (0 : Int32)), .val (.ref c2), .val (.ref c9)] [(.int (1 : Int32))])) t → Steps p.tables e below (s₁.setTop (entryFrame m #[(.long b1), (.long b2), (.int p3)] maxLocals)) t := by
      intro t kt
      refine K146 t ?_
      show Steps p.tables e below (T145.setTop (mkF m 129 #[.val (.long b1), .second, .val (.long b2), .second, .val (.int p3), .val (.long xx), .second, .val (.long yy), .second, .val (.int (0 : Int32)), .val (.ref c2), .val (.ref c9)] [(.long ((0 : Int64) - yy))])) _
      refine XS.lload X145.here hx rfl (hb hby at_129) rfl ?_
      show Steps p.tables e below (T145.setTop (mkF m 131 #[.val (.long b1), .second, .val (.long b2), .second, .val (.int p3), .val (.long xx), .second, .val (.long yy), .second, .val (.int (0 : Int32)), .val (.ref c2), .val (.ref c9)] [(.long yy), (.long ((0 : Int64) - yy))])) _
      refine XS.lneg X145.here hx rfl (hb hby at_131) rfl ?_
      show Steps p.tables e below (T145.setTop (mkF m 132 #[.val (.long b1), .second, .val (.long b2), .second, .val (.int p3), .val (.long xx), .second, .val (.long yy), .second, .val (.int (0 : Int32)), .val (.ref c2), .val (.ref c9)] [(.long (-yy)), (.long ((0 : Int64) - yy))])) _
      refine XS.lcmp X145.here hx rfl (hb hby at_132) rfl ?_
      show Steps p.tables e below (T145.setTop (mkF m 133 #[.val (.long b1), .second, .val (.long b2), .second, .val (.int p3), .val (.long xx), .second, .val (.long yy), .second, .val (.int (0 : Int32)), .val (.ref c2), .val (.ref c9)] [(.int (lcmpW ((0 : Int64) - yy) (-yy)))])) _
      refine XS.ifNo X145.here hx rfl (hb hby at_133) rfl ((if0 _ _).trans (teq ((lw_eq _ _).mpr (own_e2 xx yy) : (lcmpW ((0 : Int64) - yy) (-yy)) = (0 : Int32))).2) ?_
      show Steps p.tables e below (T145.setTop (mkF m 136 #[.val (.long b1), .second, .val (.long b2), .second, .val (.int p3), .val (.long xx), .second, .val (.long yy), .second, .val (.int (0 : Int32)), .val (.ref c2), .val (.ref c9)] [])) _
      refine XS.iconst X145.here hx rfl (hb hby at_136) ?_
      show Steps p.tables e below (T145.setTop (mkF m 137 #[.val (.long b1), .second, .val (.long b2), .second, .val (.int p3), .val (.long xx), .second, .val (.long yy), .second, .val (.int (0 : Int32)), .val (.ref c2), .val (.ref c9)] [(.int (1 : Int32))])) _
      refine XS.goto X145.here hx rfl (pc0 := 137) (pc' := 141) rfl (hb hby at_137) (by decide) (by decide) ?_
      exact kt
    obtain ⟨fs, hr, hrun, hended, hW, hsame⟩ := X145.leave (v := some (.int (1 : Int32))) (fun h => by rw [Bd.returns] at h; cases h) (hlocks := hlk)
    refine ⟨_, _, K147 _ ?_, hrun, hended, _, _, rfl, ?_, ⟨_, rfl⟩, hW, hsame.mono (by decide) (by decide)⟩
    · exact retN X145 hx (t := .boolean) Bd.returns (by simp) (hb hby at_141) hr
    · show Qrm0 h0 n0 _ T145.heap _
      rw [e145]
      exact ⟨rfl, N145⟩
  · have K148 : ∀ t, Steps p.tables e below (s₁.setTop (mkF m 30 #[.val (.long b1), .second, .val (.long b2), .second, .val (.int p3), .val (.long xx), .second, .val (.long yy), .second, .val (.int (1 : Int32)), .unset, .unset] [(.int (0 : Int32))])) t → Steps p.tables e below (s₁.setTop (entryFrame m #[(.long b1), (.long b2), (.int p3)] maxLocals)) t := by
      intro t kt
      refine K105 t ?_
      show Steps p.tables e below (s₁.setTop (mkF m 14 #[.val (.long b1), .second, .val (.long b2), .second, .val (.int p3), .val (.long xx), .second, .val (.long yy), .second, .unset, .unset, .unset] [(.int (p3 &&& (1 : Int32)))])) _
      refine XS.ifNo X0.here hx rfl (hb hby at_14) rfl ((if0 _ _).trans (feq (hc : ¬ ((p3 &&& (1 : Int32)) = (0 : Int32)))).1) ?_
      show Steps p.tables e below (s₁.setTop (mkF m 17 #[.val (.long b1), .second, .val (.long b2), .second, .val (.int p3), .val (.long xx), .second, .val (.long yy), .second, .unset, .unset, .unset] [])) _
      refine XS.iconst X0.here hx rfl (hb hby at_17) ?_
      show Steps p.tables e below (s₁.setTop (mkF m 18 #[.val (.long b1), .second, .val (.long b2), .second, .val (.int p3), .val (.long xx), .second, .val (.long yy), .second, .unset, .unset, .unset] [(.int (1 : Int32))])) _
      refine XS.goto X0.here hx rfl (pc0 := 18) (pc' := 22) rfl (hb hby at_18) (by decide) (by decide) ?_
      show Steps p.tables e below (s₁.setTop (mkF m 22 #[.val (.long b1), .second, .val (.long b2), .second, .val (.int p3), .val (.long xx), .second, .val (.long yy), .second, .unset, .unset, .unset] [(.int (1 : Int32))])) _
      refine XS.istore X0.here hx rfl (hb hby at_22) rfl (l' := #[.val (.long b1), .second, .val (.long b2), .second, .val (.int p3), .val (.long xx), .second, .val (.long yy), .second, .val (.int (1 : Int32)), .unset, .unset]) rfl ?_
      show Steps p.tables e below (s₁.setTop (mkF m 24 #[.val (.long b1), .second, .val (.long b2), .second, .val (.int p3), .val (.long xx), .second, .val (.long yy), .second, .val (.int (1 : Int32)), .unset, .unset] [])) _
      refine XS.iload X0.here hx rfl (hb hby at_24) rfl ?_
      show Steps p.tables e below (s₁.setTop (mkF m 26 #[.val (.long b1), .second, .val (.long b2), .second, .val (.int p3), .val (.long xx), .second, .val (.long yy), .second, .val (.int (1 : Int32)), .unset, .unset] [(.int (1 : Int32))])) _
      refine XS.ifNo X0.here hx rfl (hb hby at_26) rfl ((if0 _ _).trans (feq (by decide : ¬ ((1 : Int32) = (0 : Int32)))).1) ?_
      show Steps p.tables e below (s₁.setTop (mkF m 29 #[.val (.long b1), .second, .val (.long b2), .second, .val (.int p3), .val (.long xx), .second, .val (.long yy), .second, .val (.int (1 : Int32)), .unset, .unset] [])) _
      refine XS.iconst X0.here hx rfl (hb hby at_29) ?_
      exact kt
    obtain ⟨_, _, ⟨T149, L149, k149, n149⟩, -, X149, ⟨Lc149, hQ149, l149, y149, z149⟩, st149⟩ := Jvm.LawKit.callS X0 hx (y := (⟨"com/example/tranchery/tranchery/Cents", "zeros", "(I)Lcom/example/tranchery/tranchery/Cents;"⟩ : MethodName)) hown (mvT hZ (hw _ (List.mem_of_getElem? (i := 0) rfl))) (mvT hZ (hw _ (List.mem_of_getElem? (i := 1) rfl))) (mvT hZ (hw _ (List.mem_of_getElem? (i := 2) rfl))) (mvT hZ (hw _ (List.mem_of_getElem? (i := 3) rfl))) (by decide) (backOf (W := 0) (rmZ0 l Z a0 hw [] h0 n0 Z0) hZ (hw _ (List.mem_of_getElem? (i := 3) rfl)) (hw _ (List.mem_of_getElem? (i := 2) rfl)) (by decide) (by decide)) (g := (mkF m 30 #[.val (.long b1), .second, .val (.long b2), .second, .val (.int p3), .val (.long xx), .second, .val (.long yy), .second, .val (.int (1 : Int32)), .unset, .unset] [(.int (0 : Int32))])) rfl (by rw [hml]; rfl) (argsL := [(.int (0 : Int32))]) (rest := []) (lenOf pd_16 rfl) rfl (by show 2 * 0 + _ ≤ _; exact Nat.le_of_eq rfl) (hb hby at_30) (fun _ _ => ⟨rfl, e0, (by decide : 0 + 2 ≤ _), (by decide : 0 + 1 ≤ _)⟩)
    dsimp only [Pt.U, Pt.locs, Pt.cells, Pt.slots] at X149 l149 y149 z149 st149 hQ149
    subst l149 y149 z149
    obtain ⟨c0, t0, k0, rfl, C0, Nq149, Kq149⟩ := hQ149
    have f150 := Nat.le_trans Z0 Kq149.1
    have f151 := KK0.trans Kq149 all0
    have f152 := X00.keep Kq149 all0
    have N149 := Fr.app N0 Nq149
    have K153 : ∀ t, Steps p.tables e below (T149.setTop (mkF m 33 #[.val (.long b1), .second, .val (.long b2), .second, .val (.int p3), .val (.long xx), .second, .val (.long yy), .second, .val (.int (1 : Int32)), .unset, .unset] [(.ref c0)])) t → Steps p.tables e below (s₁.setTop (entryFrame m #[(.long b1), (.long b2), (.int p3)] maxLocals)) t := fun t kt => K148 t (st149 t kt)
    have K154 : ∀ t, Steps p.tables e below (T149.setTop (mkF m 60 #[.val (.long b1), .second, .val (.long b2), .second, .val (.int p3), .val (.long xx), .second, .val (.long yy), .second, .val (.int (1 : Int32)), .val (.ref c0), .unset] [(.ref c0)])) t → Steps p.tables e below (s₁.setTop (entryFrame m #[(.long b1), (.long b2), (.int p3)] maxLocals)) t := by
      intro t kt
      refine K153 t ?_
      show Steps p.tables e below (T149.setTop (mkF m 33 #[.val (.long b1), .second, .val (.long b2), .second, .val (.int p3), .val (.long xx), .second, .val (.long yy), .second, .val (.int (1 : Int32)), .unset, .unset] [(.ref c0)])) _
      refine XS.astore X149.here hx rfl (hb hby at_33) rfl rfl (l' := #[.val (.long b1), .second, .val (.long b2), .second, .val (.int p3), .val (.long xx), .second, .val (.long yy), .second, .val (.int (1 : Int32)), .val (.ref c0), .unset]) rfl ?_
      show Steps p.tables e below (T149.setTop (mkF m 35 #[.val (.long b1), .second, .val (.long b2), .second, .val (.int p3), .val (.long xx), .second, .val (.long yy), .second, .val (.int (1 : Int32)), .val (.ref c0), .unset] [])) _
      refine XS.goto X149.here hx rfl (pc0 := 35) (pc' := 58) rfl (hb hby at_35) (by decide) (by decide) ?_
      show Steps p.tables e below (T149.setTop (mkF m 58 #[.val (.long b1), .second, .val (.long b2), .second, .val (.int p3), .val (.long xx), .second, .val (.long yy), .second, .val (.int (1 : Int32)), .val (.ref c0), .unset] [])) _
      refine XS.aload X149.here hx rfl (hb hby at_58) rfl rfl ?_
      exact kt
    obtain ⟨cq155, kq155, q155a, q155b, q155c⟩ := isOf hZ rfl C0.1
    obtain ⟨_, _, ⟨T155, L155, k155, n155⟩, -, X155, ⟨Lc155, hQ155, l155, y155, z155⟩, st155⟩ := X149.virtualBack hx (y := (⟨"com/example/tranchery/tranchery/Cents", "amounts", "()Ljava/util/List;"⟩ : MethodName)) (z := (⟨"com/example/tranchery/tranchery/Cents", "amounts", "()Ljava/util/List;"⟩ : MethodName)) hown (mvT hZ (hw _ (List.mem_of_getElem? (i := 36) rfl))) (mvT hZ (hw _ (List.mem_of_getElem? (i := 37) rfl))) (notFace_of_selects (args := #[]) (mvT hZ (hw _ (List.mem_of_getElem? (i := 39) rfl)))) (mvT hZ (hw _ (List.mem_of_getElem? (i := 39) rfl))) (mvT hZ (hw _ (List.mem_of_getElem? (i := 38) rfl))) (by decide) (backOf (W := 0) (rmL0 l Z a0 hw [] c0 t0 k0 ae T149.heap n0 f150 C0.1 C0.2.1 C0.2.2.1 C0.2.2.2 re SE f152) hZ (hw _ (List.mem_of_getElem? (i := 40) rfl)) (hw _ (List.mem_of_getElem? (i := 2) rfl)) (by decide) (by decide)) q155a q155c (g := (mkF m 60 #[.val (.long b1), .second, .val (.long b2), .second, .val (.int p3), .val (.long xx), .second, .val (.long yy), .second, .val (.int (1 : Int32)), .val (.ref c0), .unset] [(.ref c0)])) rfl (by rw [hml]; rfl) (Steps.refl _) (argsL := []) (rest := []) (lenOf pd_18 rfl) rfl (by show 2 * 0 + _ ≤ _; exact Nat.le_of_eq rfl) (hb hby at_60) (fun _ _ => ⟨rfl, rfl, (by decide : 2 + 1 ≤ _), (by decide : 1 + 3 ≤ _)⟩)
    dsimp only [Pt.U, Pt.locs, Pt.cells, Pt.slots] at X155 l155 y155 z155 st155 hQ155
    subst l155 y155 z155
    obtain ⟨ls, rfl, El, Fl, Nq155, Kq155⟩ := hQ155
    have f156 := Nat.le_trans f150 Kq155.1
    have f157 := f151.trans Kq155 all0
    have f158 := f152.keep Kq155 all0
    have N155 := Fr.app N149 Nq155
    have K159 : ∀ t, Steps p.tables e below (T155.setTop (mkF m 63 #[.val (.long b1), .second, .val (.long b2), .second, .val (.int p3), .val (.long xx), .second, .val (.long yy), .second, .val (.int (1 : Int32)), .val (.ref c0), .unset] [(.ref ls)])) t → Steps p.tables e below (s₁.setTop (entryFrame m #[(.long b1), (.long b2), (.int p3)] maxLocals)) t := fun t kt => K154 t (st155.trans kt)
    obtain ⟨_, _, ⟨T160, L160, k160, n160⟩, -, X160, ⟨Lc160, hQ160, l160, y160, z160⟩, st160⟩ := Jvm.LawKit.callS X155 hx (y := (⟨"com/example/tranchery/tranchery/Cents", "of", "(Ljava/util/List;)Lcom/example/tranchery/tranchery/Cents;"⟩ : MethodName)) hown (mvT hZ (hw _ (List.mem_of_getElem? (i := 120) rfl))) (mvT hZ (hw _ (List.mem_of_getElem? (i := 121) rfl))) (mvT hZ (hw _ (List.mem_of_getElem? (i := 2) rfl))) (mvT hZ (hw _ (List.mem_of_getElem? (i := 122) rfl))) (by decide) (backOf (W := 0) (rmO0 l Z a0 hw [] ls T155.heap n0 f156 El Fl) hZ (hw _ (List.mem_of_getElem? (i := 122) rfl)) (hw _ (List.mem_of_getElem? (i := 2) rfl)) (by decide) (by decide)) (g := (mkF m 63 #[.val (.long b1), .second, .val (.long b2), .second, .val (.int p3), .val (.long xx), .second, .val (.long yy), .second, .val (.int (1 : Int32)), .val (.ref c0), .unset] [(.ref ls)])) rfl (by rw [hml]; rfl) (argsL := [(.ref ls)]) (rest := []) (lenOf pd_19 rfl) rfl (by show 2 * 0 + _ ≤ _; exact Nat.le_of_eq rfl) (hb hby at_63) (fun _ _ => ⟨rfl, rfl, (by decide : 3 + 2 ≤ _), (by decide : 4 + 1 ≤ _)⟩)
    dsimp only [Pt.U, Pt.locs, Pt.cells, Pt.slots] at X160 l160 y160 z160 st160 hQ160
    subst l160 y160 z160
    obtain ⟨c9, t9, k9, rfl, C9, Nq160, Kq160⟩ := hQ160
    have f161 := Nat.le_trans f156 Kq160.1
    have f162 := f157.trans Kq160 all0
    have f163 := f158.keep Kq160 all0
    have N160 := Fr.app N155 Nq160
    have K164 : ∀ t, Steps p.tables e below (T160.setTop (mkF m 66 #[.val (.long b1), .second, .val (.long b2), .second, .val (.int p3), .val (.long xx), .second, .val (.long yy), .second, .val (.int (1 : Int32)), .val (.ref c0), .unset] [(.ref c9)])) t → Steps p.tables e below (s₁.setTop (entryFrame m #[(.long b1), (.long b2), (.int p3)] maxLocals)) t := fun t kt => K159 t (st160 t kt)
    have K165 : ∀ t, Steps p.tables e below (T160.setTop (mkF m 75 #[.val (.long b1), .second, .val (.long b2), .second, .val (.int p3), .val (.long xx), .second, .val (.long yy), .second, .val (.int (1 : Int32)), .val (.ref c0), .val (.ref c9)] [(.ref c9)])) t → Steps p.tables e below (s₁.setTop (entryFrame m #[(.long b1), (.long b2), (.int p3)] maxLocals)) t := by
      intro t kt
      refine K164 t ?_
      show Steps p.tables e below (T160.setTop (mkF m 66 #[.val (.long b1), .second, .val (.long b2), .second, .val (.int p3), .val (.long xx), .second, .val (.long yy), .second, .val (.int (1 : Int32)), .val (.ref c0), .unset] [(.ref c9)])) _
      refine XS.astore X160.here hx rfl (hb hby at_66) rfl rfl (l' := #[.val (.long b1), .second, .val (.long b2), .second, .val (.int p3), .val (.long xx), .second, .val (.long yy), .second, .val (.int (1 : Int32)), .val (.ref c0), .val (.ref c9)]) rfl ?_
      show Steps p.tables e below (T160.setTop (mkF m 68 #[.val (.long b1), .second, .val (.long b2), .second, .val (.int p3), .val (.long xx), .second, .val (.long yy), .second, .val (.int (1 : Int32)), .val (.ref c0), .val (.ref c9)] [])) _
      refine XS.iload X160.here hx rfl (hb hby at_68) rfl ?_
      show Steps p.tables e below (T160.setTop (mkF m 70 #[.val (.long b1), .second, .val (.long b2), .second, .val (.int p3), .val (.long xx), .second, .val (.long yy), .second, .val (.int (1 : Int32)), .val (.ref c0), .val (.ref c9)] [(.int (1 : Int32))])) _
      refine XS.ifNo X160.here hx rfl (hb hby at_70) rfl ((if0 _ _).trans (feq (by decide : ¬ ((1 : Int32) = (0 : Int32)))).1) ?_
      show Steps p.tables e below (T160.setTop (mkF m 73 #[.val (.long b1), .second, .val (.long b2), .second, .val (.int p3), .val (.long xx), .second, .val (.long yy), .second, .val (.int (1 : Int32)), .val (.ref c0), .val (.ref c9)] [])) _
      refine XS.aload X160.here hx rfl (hb hby at_73) rfl rfl ?_
      exact kt
    obtain ⟨cq166, kq166, q166a, q166b, q166c⟩ := isOf hZ rfl C9.1
    obtain ⟨_, _, ⟨T166, L166, k166, n166⟩, -, X166, ⟨Lc166, hQ166, l166, y166, z166⟩, st166⟩ := X160.virtualBack hx (y := (⟨"com/example/tranchery/tranchery/Cents", "size", "()I"⟩ : MethodName)) (z := (⟨"com/example/tranchery/tranchery/Cents", "size", "()I"⟩ : MethodName)) hown (mvT hZ (hw _ (List.mem_of_getElem? (i := 171) rfl))) (mvT hZ (hw _ (List.mem_of_getElem? (i := 172) rfl))) (notFace_of_selects (args := #[]) (mvT hZ (hw _ (List.mem_of_getElem? (i := 174) rfl)))) (mvT hZ (hw _ (List.mem_of_getElem? (i := 174) rfl))) (mvT hZ (hw _ (List.mem_of_getElem? (i := 173) rfl))) (by decide) (backOf (W := 0) (rmCZ0 l Z a0 hw [] c9 t9 k9 T160.heap n0 f161 C9.1 C9.2.1 C9.2.2.1 C9.2.2.2) hZ (hw _ (List.mem_of_getElem? (i := 175) rfl)) (hw _ (List.mem_of_getElem? (i := 2) rfl)) (by decide) (by decide)) q166a q166c (g := (mkF m 75 #[.val (.long b1), .second, .val (.long b2), .second, .val (.int p3), .val (.long xx), .second, .val (.long yy), .second, .val (.int (1 : Int32)), .val (.ref c0), .val (.ref c9)] [(.ref c9)])) rfl (by rw [hml]; rfl) (Steps.refl _) (argsL := []) (rest := []) (lenOf pd_14 rfl) rfl (by show 2 * 0 + _ ≤ _; exact Nat.le_of_eq rfl) (hb hby at_75) (fun _ _ => ⟨rfl, rfl, (by decide : 5 + 0 ≤ _), (by decide : 5 + 0 ≤ _)⟩)
    dsimp only [Pt.U, Pt.locs, Pt.cells, Pt.slots] at X166 l166 y166 z166 st166 hQ166
    subst l166 y166 z166
    obtain ⟨rfl, Nq166, e166⟩ := hQ166
    have N166 := Fr.app N160 Nq166
    have K167 : ∀ t, Steps p.tables e below (T166.setTop (mkF m 78 #[.val (.long b1), .second, .val (.long b2), .second, .val (.int p3), .val (.long xx), .second, .val (.long yy), .second, .val (.int (1 : Int32)), .val (.ref c0), .val (.ref c9)] [(.int (0 : Int32))])) t → Steps p.tables e below (s₁.setTop (entryFrame m #[(.long b1), (.long b2), (.int p3)] maxLocals)) t := fun t kt => K165 t (st166.trans kt)
    have K168 : ∀ t, Steps p.tables e below (T166.setTop (mkF m 86 #[.val (.long b1), .second, .val (.long b2), .second, .val (.int p3), .val (.long xx), .second, .val (.long yy), .second, .val (.int (1 : Int32)), .val (.ref c0), .val (.ref c9)] [(.int (1 : Int32))])) t → Steps p.tables e below (s₁.setTop (entryFrame m #[(.long b1), (.long b2), (.int p3)] maxLocals)) t := by
      intro t kt
      refine K167 t ?_
      show Steps p.tables e below (T166.setTop (mkF m 78 #[.val (.long b1), .second, .val (.long b2), .second, .val (.int p3), .val (.long xx), .second, .val (.long yy), .second, .val (.int (1 : Int32)), .val (.ref c0), .val (.ref c9)] [(.int (0 : Int32))])) _
      refine XS.ifNo X166.here hx rfl (hb hby at_78) rfl ((if0 _ _).trans (teq (by decide : (0 : Int32) = (0 : Int32))).2) ?_
      show Steps p.tables e below (T166.setTop (mkF m 81 #[.val (.long b1), .second, .val (.long b2), .second, .val (.int p3), .val (.long xx), .second, .val (.long yy), .second, .val (.int (1 : Int32)), .val (.ref c0), .val (.ref c9)] [])) _
      refine XS.iconst X166.here hx rfl (hb hby at_81) ?_
      show Steps p.tables e below (T166.setTop (mkF m 82 #[.val (.long b1), .second, .val (.long b2), .second, .val (.int p3), .val (.long xx), .second, .val (.long yy), .second, .val (.int (1 : Int32)), .val (.ref c0), .val (.ref c9)] [(.int (1 : Int32))])) _
      refine XS.goto X166.here hx rfl (pc0 := 82) (pc' := 86) rfl (hb hby at_82) (by decide) (by decide) ?_
      exact kt
    obtain ⟨fs, hr, hrun, hended, hW, hsame⟩ := X166.leave (v := some (.int (1 : Int32))) (fun h => by rw [Bd.returns] at h; cases h) (hlocks := hlk)
    refine ⟨_, _, K168 _ ?_, hrun, hended, _, _, rfl, ?_, ⟨_, rfl⟩, hW, hsame.mono (by decide) (by decide)⟩
    · exact retN X166 hx (t := .boolean) Bd.returns (by simp) (hb hby at_86) hr
    · show Qrm0 h0 n0 _ T166.heap _
      rw [e166]
      exact ⟨rfl, N166⟩
set_option maxRecDepth 65536 in
set_option maxHeartbeats 40000000 in
theorem comes_1 {Post : Tables → Env → Array Value → State → Outcome → State → Prop} (hpost : ∀ tb e args s v u, (limb_1_1.after args s (.returned v) u = true ∧ limb_1_2.after args s (.returned v) u = true ∧ True) → FrameEnd s (.returned v) u (Jvm.fieldLocs frame_1_writes args s ++ Jvm.arrayLocs frame_1_arrays args s ++ Jvm.staticLocs frame_1_statics s) 40 192 → Post tb e args s (.returned v) u) :
    ArmFor flags0 classFile x code maxLocals ret World_1 tables_1 room_1 Calls_1 rest_1 Pre_1 Post := by
  intro l hfl _ _ p e ha hc hk s m args below hf hA hF happ hP
  obtain ⟨hcalls, hrest, hpre⟩ := hP
  obtain ⟨-, -, -, hnamed, -, -, -, hat⟩ := (Spec.applies_iff hf).mp happ
  obtain ⟨hg, hn⟩ := and_e (Cond.before_iff.mp (show (Jvm.Cond.and given_1 narrow_1).before args s = true from hpre))
  obtain ⟨ga0, gb0⟩ := and_e hg
  obtain ⟨ga1, gb1⟩ := and_e gb0
  obtain ⟨ga2, gb2⟩ := and_e gb1
  obtain ⟨w0, w1, w2, rfl⟩ : ∃ w0 w1 w2 : Value, args = #[w0, w1, w2] := by
    have hs : args.size = 3 := by simpa [Cond.value, given_1] using ga0
    obtain ⟨L⟩ := args
    match L, hs with
    | [w0, w1, w2], _ => exact ⟨w0, w1, w2, rfl⟩
  have hw := fun d (hd : d ∈ tables_1) => atoms_spec (ws := Jvm.Cond.code x code maxLocals ret :: tables_1) hat d (List.mem_cons_of_mem _ hd)
  have hfit : Fit s := fun {y c} hc i hi => by
    obtain ⟨ha, rfl⟩ := Array.getElem?_eq_some_iff.mp hc
    have q := List.all_eq_true.mp ((Array.all_eq_true_iff_forall_mem.mp hF) _ (Array.getElem_mem ha)) i (List.mem_range.mpr hi)
    simpa [Array.getElem?_eq_getElem hi] using q
  obtain ⟨i0, ei0⟩ := isL_v ga1
  obtain rfl : w0 = (.long i0) := Option.some.inj ei0
  obtain ⟨i1, ei1⟩ := isL_v ga2
  obtain rfl : w1 = (.long i1) := Option.some.inj ei1
  obtain ⟨i2, ei2⟩ := is_v gb2
  obtain rfl : w2 = (.int i2) := Option.some.inj ei2
  obtain ⟨hsets, hown0⟩ := atoms_of _ (rest_1_c_eq ▸ (show rest_1_c.before _ s = true from hrest))
  obtain ⟨az, eaz⟩ := arr_v (Cond.before_iff.mp (hsets _ (List.mem_of_getElem? (i := 6) rfl)))
  have SZ : Sta s s.heap "java/math/BigDecimal" "ZERO_SCALED_BY" "[Ljava/math/BigDecimal;" (.ref az) := Sta.start eaz (Or.inl (hsets _ (List.mem_of_getElem? (i := 1) rfl)))
  obtain ⟨cz, Az⟩ := Arr.start eaz (Cond.before_iff.mp (hsets _ (List.mem_of_getElem? (i := 6) rfl)))
  obtain ⟨hz1, hz2⟩ := own_len (Cond.before_iff.mp (hsets _ (List.mem_of_getElem? (i := 8) rfl))) eaz Az
  have hz0 : cz.slots.size = 16 := own_16 hz1 hz2
  obtain ⟨z2, ez2⟩ := exa_v (Cond.before_iff.mp (hsets _ (List.mem_of_getElem? (i := 28) rfl)))
  have el2 := own_elat ez2 eaz Az (by decide)
  obtain ⟨iv, eiv⟩ := exa_v (Cond.before_iff.mp (hsets _ (List.mem_of_getElem? (i := 32) rfl)))
  have ZZ : ZSc s s.heap az z2 cz := ⟨SZ, Az, hz0, el2, .ref iv, rfl, Exa.start ez2 (Cond.before_iff.mp (hsets _ (List.mem_of_getElem? (i := 28) rfl))), Fld.start (own_fldv (Cond.before_iff.mp (hsets _ (List.mem_of_getElem? (i := 30) rfl))) ez2 (long_at 0)), Fld.start (own_fldv (Cond.before_iff.mp (hsets _ (List.mem_of_getElem? (i := 29) rfl))) ez2 (Term.int_eval 2)), Fld.start ((fld_at ez2).symm.trans eiv)⟩
  obtain ⟨ae, eae⟩ := arr_v (Cond.before_iff.mp (hsets _ (List.mem_of_getElem? (i := 157) rfl)))
  have SE : Sta s s.heap "java/util/ArrayList" "EMPTY_ELEMENTDATA" "[Ljava/lang/Object;" (.ref ae) := Sta.start eae (Or.inl (hsets _ (List.mem_of_getElem? (i := 155) rfl)))
  obtain ⟨n, o, h1, h2, h3, _, L, rfl, ⟨rfl, N⟩, hq⟩ := rm0 l s _ hw tables_1 i0 i1 i2 az z2 cz (.ref ae) s.heap s.heap.size (Nat.le_refl _) ZZ rfl SE (Old.start s) p e ha hc hk s m _ below hf ((Spec.applies_iff_loose hf).mp happ).1 ⟨rfl, State.Warmed39.refl s, rfl⟩ trivial
  refine ⟨n, _, h1, h2, h3, hpost _ _ _ _ _ _ ⟨Cond.after_iff.mpr rfl, Cond.after_iff.mpr (eq_i res_at (Term.int_eval (1)) rfl), trivial⟩ ⟨hq.1, hq.2.1, (hq.2.2.sift fun y hy => Or.inr (N y hy)).mono (by decide) (by decide)⟩⟩
theorem main_1_1 : Claimed_1_1 := comes_1 fun _ _ _ _ _ _ h hF => ⟨h.1, hF⟩
theorem main_1_2 : Claimed_1_2 := comes_1 fun _ _ _ _ _ _ h hF => ⟨h.2.1, hF⟩
end Jvm.Pilot.@@N@@
namespace Jvm.Pilot.@@N@@
open Jvm Jvm.ClassFile Sem Op Lib Jvm.Free Jvm.Stand Jvm.Pilot.@@N@@.Jvm.D
/-! MADE BY PROGRAM (witnessworld.py) out of the Statement's table words and the real class files: 28 classes; the members and pool entries that the words name. The judged class is class 1, her method 1. -/
namespace start1
open Jvm.ClassFile
def u (s : String) : CpInfo := .utf8 (stringToUtf16 s)
/-- a pool by its gaps: so many unusable entries, then the entry; so many at the end -/
def gap : Nat → List CpInfo → List CpInfo
  | 0, r => r
  | n + 1, r => .unusable :: gap n r
def poolList (es : List (Nat × CpInfo)) (last : Nat) : List CpInfo := es.foldr (fun e r => gap e.1 (e.2 :: r)) (gap last [])
def pool (es : List (Nat × CpInfo)) (last : Nat) : Array CpInfo := ⟨poolList es last⟩
def fileOf (pool : Array CpInfo) (this : Nat) (attrs : Array Attribute := #[]) (ms : Array MethodInfo := #[]) (fl : Nat := 33) (sup : Nat := 0) (ifs : Array Nat := #[]) (fds : Array FieldInfo := #[]) : ClassFile where
  minorVersion := 0
  majorVersion := 65
  constantPool := pool
  accessFlags := fl
  thisClass := this
  superClass := sup
  interfaces := ifs
  fields := fds
  methods := ms
  attributes := attrs
def plain (name : String) (sup : Option ClassId) : Class where
  name := name
  kind := .ordinary
  loader := none
  accessFlags := 33
  super := sup
  interfaces := #[]
  cf := none
  fields := #[]
  methods := #[]
  instanceTypes := #[]
  staticTypes := #[]
  resolved := #[]
  callSites := []
  init := .initialized
  statics := none
  mirror := none

def pool0 : Array CpInfo := pool [(5, u "<init>"), (0, u "()V"), (1, .class_ 10), (1, u "java/lang/Object"), (85, u "clone"), (0, u "()Ljava/lang/Object;")] 26

def k0c0 : Code := { maxStack := 0, maxLocals := 1, code := object_method_1_code, exceptionTable := #[], attributes := #[] }
def k0m0 : Method := { name := "<init>", desc := "()V", sig := { parameters := [], returnType := none }, accessFlags := 1, code := some k0c0 }
def k0m1 : Method := { name := "clone", desc := "()Ljava/lang/Object;", sig := { parameters := [], returnType := some (.object "java/lang/Object") }, accessFlags := 260, code := none }
/-- java/lang/Object -/
def k0 : Class := { plain "java/lang/Object" none with
  accessFlags := 33
  interfaces := #[]
  cf := some (fileOf pool0 8 #[] #[{ accessFlags := 1, nameIndex := 5, descriptorIndex := 6, attributes := #[] }, { accessFlags := 260, nameIndex := 96, descriptorIndex := 97, attributes := #[] }] 33 0 #[] #[])
  fields := #[]
  methods := #[k0m0, k0m1]
  instanceTypes := #[]
  staticTypes := #[]
  resolved := Array.replicate 124 none
  statics := none }

def pool1 : Array CpInfo := pool [(2, .class_ 4), (1, u "java/lang/Object"), (0, u "<init>"), (0, u "()V"), (0, .methodref 8 9), (0, .class_ 10), (0, .nameAndType 11 12), (0, u "com/example/tranchery/tranchery/Cents"), (0, u "zeros"), (0, u "(I)Lcom/example/tranchery/tranchery/Cents;"), (0, .methodref 8 14), (0, .nameAndType 15 16), (0, u "moved"), (0, u "(IIJ)Lcom/example/tranchery/tranchery/Cents;"), (0, .methodref 8 18), (0, .nameAndType 19 20), (0, u "amounts"), (0, u "()Ljava/util/List;"), (0, .methodref 8 22), (0, .nameAndType 23 24), (0, u "of"), (0, u "(Ljava/util/List;)Lcom/example/tranchery/tranchery/Cents;"), (0, .methodref 8 26), (0, .nameAndType 27 28), (0, u "size"), (0, u "()I"), (0, .methodref 8 30), (0, .nameAndType 31 32), (0, u "cents"), (0, u "(I)J"), (0, .class_ 34), (0, u "com/example/tranchery/tranchery/CentsOfPinLaw"), (2, u "law"), (0, u "(JJI)Z")] 3

def k1m0 : Method := { name := "<init>", desc := "()V", sig := { parameters := [], returnType := none }, accessFlags := 2, code := none }
def k1c1 : Code := { maxStack := 6, maxLocals := 12, code := code, exceptionTable := #[], attributes := #[] }
def k1m1 : Method := { name := "law", desc := "(JJI)Z", sig := { parameters := [.long, .long, .int], returnType := some .boolean }, accessFlags := 9, code := some k1c1 }
/-- com/example/tranchery/tranchery/CentsOfPinLaw -/
def k1 : Class := { plain "com/example/tranchery/tranchery/CentsOfPinLaw" (some 0) with
  accessFlags := 49
  interfaces := #[]
  cf := some (fileOf pool1 33 #[] #[{ accessFlags := 2, nameIndex := 5, descriptorIndex := 6, attributes := #[] }, { accessFlags := 9, nameIndex := 37, descriptorIndex := 38, attributes := #[] }] 49 2 #[] #[])
  fields := #[]
  methods := #[k1m0, k1m1]
  instanceTypes := #[]
  staticTypes := #[]
  resolved := Array.replicate 42 none
  statics := none }

def pool2 : Array CpInfo := pool [(3, .methodref 4 5), (0, .class_ 6), (0, .nameAndType 7 8), (0, u "java/lang/Object"), (0, u "<init>"), (0, u "()V"), (0, .fieldref 10 11), (0, .class_ 12), (0, .nameAndType 13 14), (0, u "com/example/tranchery/tranchery/Cents"), (0, u "amounts"), (0, u "[J"), (0, .interfaceMethodref 16 17), (0, .class_ 18), (0, .nameAndType 19 20), (0, u "java/util/List"), (0, u "size"), (0, u "()I"), (0, .interfaceMethodref 16 22), (0, .nameAndType 23 24), (0, u "get"), (0, u "(I)Ljava/lang/Object;"), (0, .class_ 26), (0, u "java/math/BigDecimal"), (0, .methodref 10 28), (0, .nameAndType 29 30), (0, u "inCents"), (0, u "(Ljava/math/BigDecimal;)J"), (0, .methodref 10 32), (0, .nameAndType 7 33), (0, u "([J)V"), (0, .methodref 25 35), (0, .nameAndType 36 37), (0, u "movePointRight"), (0, u "(I)Ljava/math/BigDecimal;"), (0, .methodref 25 39), (0, .nameAndType 40 41), (0, u "longValueExact"), (0, u "()J"), (0, .methodref 25 43), (0, .nameAndType 44 45), (0, u "valueOf"), (0, u "(JI)Ljava/math/BigDecimal;"), (0, .class_ 47), (0, u "java/util/ArrayList"), (0, .methodref 46 49), (0, .nameAndType 7 50), (0, u "(I)V"), (0, .methodref 10 52), (0, .nameAndType 53 37), (0, u "amount"), (0, .interfaceMethodref 16 55), (0, .nameAndType 56 57), (0, u "add"), (0, u "(Ljava/lang/Object;)Z"), (0, .methodref 59 60), (0, .class_ 61), (0, .nameAndType 62 63), (0, u "java/lang/Math"), (0, u "addExact"), (0, u "(JJ)J"), (0, .methodref 59 65), (0, .nameAndType 66 63), (0, u "subtractExact"), (0, .methodref 68 69), (0, .class_ 14), (0, .nameAndType 70 71), (0, u "clone"), (0, u "()Ljava/lang/Object;"), (10, u "CENTS"), (0, u "I"), (4, u "of"), (0, u "(Ljava/util/List;)Lcom/example/tranchery/tranchery/Cents;"), (3, u "zeros"), (0, u "(I)Lcom/example/tranchery/tranchery/Cents;"), (0, u "cents"), (0, u "(I)J"), (0, u "()Ljava/util/List;"), (5, u "moved"), (0, u "(IIJ)Lcom/example/tranchery/tranchery/Cents;")] 2

def k2c0 : Code := { maxStack := 2, maxLocals := 2, code := prog_5_method_1_code, exceptionTable := #[], attributes := #[] }
def k2m0 : Method := { name := "<init>", desc := "([J)V", sig := { parameters := [(.array .long)], returnType := none }, accessFlags := 2, code := some k2c0 }
def k2c1 : Code := { maxStack := 4, maxLocals := 3, code := prog_5_method_2_code, exceptionTable := #[], attributes := #[] }
def k2m1 : Method := { name := "of", desc := "(Ljava/util/List;)Lcom/example/tranchery/tranchery/Cents;", sig := { parameters := [(.object "java/util/List")], returnType := some (.object "com/example/tranchery/tranchery/Cents") }, accessFlags := 8, code := some k2c1 }
def k2c2 : Code := { maxStack := 3, maxLocals := 1, code := prog_5_method_3_code, exceptionTable := #[], attributes := #[] }
def k2m2 : Method := { name := "zeros", desc := "(I)Lcom/example/tranchery/tranchery/Cents;", sig := { parameters := [.int], returnType := some (.object "com/example/tranchery/tranchery/Cents") }, accessFlags := 8, code := some k2c2 }
def k2c3 : Code := { maxStack := 2, maxLocals := 1, code := prog_5_method_4_code, exceptionTable := #[], attributes := #[] }
def k2m3 : Method := { name := "inCents", desc := "(Ljava/math/BigDecimal;)J", sig := { parameters := [(.object "java/math/BigDecimal")], returnType := some .long }, accessFlags := 8, code := some k2c3 }
def k2c4 : Code := { maxStack := 1, maxLocals := 1, code := prog_5_method_5_code, exceptionTable := #[], attributes := #[] }
def k2m4 : Method := { name := "size", desc := "()I", sig := { parameters := [], returnType := some .int }, accessFlags := 0, code := some k2c4 }
def k2c5 : Code := { maxStack := 2, maxLocals := 2, code := prog_5_method_6_code, exceptionTable := #[], attributes := #[] }
def k2m5 : Method := { name := "cents", desc := "(I)J", sig := { parameters := [.int], returnType := some .long }, accessFlags := 0, code := some k2c5 }
def k2c6 : Code := { maxStack := 3, maxLocals := 2, code := prog_5_method_7_code, exceptionTable := #[], attributes := #[] }
def k2m6 : Method := { name := "amount", desc := "(I)Ljava/math/BigDecimal;", sig := { parameters := [.int], returnType := some (.object "java/math/BigDecimal") }, accessFlags := 0, code := some k2c6 }
def k2c7 : Code := { maxStack := 3, maxLocals := 3, code := prog_5_method_8_code, exceptionTable := #[], attributes := #[] }
def k2m7 : Method := { name := "amounts", desc := "()Ljava/util/List;", sig := { parameters := [], returnType := some (.object "java/util/List") }, accessFlags := 0, code := some k2c7 }
def k2c8 : Code := { maxStack := 6, maxLocals := 6, code := prog_5_method_12_code, exceptionTable := #[], attributes := #[] }
def k2m8 : Method := { name := "moved", desc := "(IIJ)Lcom/example/tranchery/tranchery/Cents;", sig := { parameters := [.int, .int, .long], returnType := some (.object "com/example/tranchery/tranchery/Cents") }, accessFlags := 0, code := some k2c8 }
/-- com/example/tranchery/tranchery/Cents -/
def k2 : Class := { plain "com/example/tranchery/tranchery/Cents" (some 0) with
  accessFlags := 48
  interfaces := #[]
  cf := some (fileOf pool2 10 #[] #[{ accessFlags := 2, nameIndex := 7, descriptorIndex := 33, attributes := #[] }, { accessFlags := 8, nameIndex := 88, descriptorIndex := 89, attributes := #[] }, { accessFlags := 8, nameIndex := 93, descriptorIndex := 94, attributes := #[] }, { accessFlags := 8, nameIndex := 29, descriptorIndex := 30, attributes := #[] }, { accessFlags := 0, nameIndex := 19, descriptorIndex := 20, attributes := #[] }, { accessFlags := 0, nameIndex := 95, descriptorIndex := 96, attributes := #[] }, { accessFlags := 0, nameIndex := 53, descriptorIndex := 37, attributes := #[] }, { accessFlags := 0, nameIndex := 13, descriptorIndex := 97, attributes := #[] }, { accessFlags := 0, nameIndex := 103, descriptorIndex := 104, attributes := #[] }] 48 4 #[] #[{ accessFlags := 26, nameIndex := 82, descriptorIndex := 83, attributes := #[] }, { accessFlags := 18, nameIndex := 13, descriptorIndex := 14, attributes := #[] }])
  fields := #[{ name := "CENTS", type := .int, accessFlags := 26, slot := 0, constantValue := 0 }, { name := "amounts", type := (.array .long), accessFlags := 18, slot := 0, constantValue := 0 }]
  methods := #[k2m0, k2m1, k2m2, k2m3, k2m4, k2m5, k2m6, k2m7, k2m8]
  instanceTypes := #[(.array .long)]
  staticTypes := #[.int]
  resolved := Array.replicate 107 none
  statics := none }

def pool3 : Array CpInfo := pool [(1, .class_ 2), (0, u "java/lang/Cloneable"), (0, .class_ 4), (0, u "java/lang/Object")] 2

/-- java/lang/Cloneable -/
def k3 : Class := { plain "java/lang/Cloneable" (some 0) with
  accessFlags := 1537
  interfaces := #[]
  cf := some (fileOf pool3 1 #[] #[] 1537 3 #[] #[])
  fields := #[]
  methods := #[]
  instanceTypes := #[]
  staticTypes := #[]
  resolved := Array.replicate 7 none
  statics := none }

def pool4 : Array CpInfo := pool [(1, .class_ 2), (0, u "java/lang/Math"), (1, .class_ 6), (1, u "java/lang/Object"), (0, u "<init>"), (0, u "()V"), (89, .class_ 100), (1, u "java/lang/Math$RandomNumberGeneratorHolder"), (20, u "(JJ)J"), (50, u "negativeZeroFloatBits"), (0, u "J"), (2, u "negativeZeroDoubleBits"), (68, u "$assertionsDisabled"), (0, u "Z"), (91, u "twoToTheDoubleScaleDown"), (0, u "D"), (4, u "twoToTheDoubleScaleUp"), (9, u "E"), (3, u "PI"), (2, u "TAU"), (2, u "DEGREES_TO_RADIANS"), (0, u "RADIANS_TO_DEGREES"), (27, u "addExact"), (0, u "subtractExact")] 65

def k4m0 : Method := { name := "<init>", desc := "()V", sig := { parameters := [], returnType := none }, accessFlags := 2, code := none }
def k4c1 : Code := { maxStack := 6, maxLocals := 6, code := jdk_29_method_25_code, exceptionTable := #[], attributes := #[] }
def k4m1 : Method := { name := "addExact", desc := "(JJ)J", sig := { parameters := [.long, .long], returnType := some .long }, accessFlags := 9, code := some k4c1 }
def k4c2 : Code := { maxStack := 6, maxLocals := 6, code := jdk_29_method_27_code, exceptionTable := #[], attributes := #[] }
def k4m2 : Method := { name := "subtractExact", desc := "(JJ)J", sig := { parameters := [.long, .long], returnType := some .long }, accessFlags := 9, code := some k4c2 }
/-- java/lang/Math -/
def k4 : Class := { plain "java/lang/Math" (some 0) with
  accessFlags := 49
  interfaces := #[]
  cf := some (fileOf pool4 1 #[.nestMembers #[98]] #[{ accessFlags := 2, nameIndex := 7, descriptorIndex := 8, attributes := #[] }, { accessFlags := 9, nameIndex := 393, descriptorIndex := 121, attributes := #[] }, { accessFlags := 9, nameIndex := 394, descriptorIndex := 121, attributes := #[] }] 49 4 #[] #[{ accessFlags := 25, nameIndex := 354, descriptorIndex := 339, attributes := #[] }, { accessFlags := 25, nameIndex := 358, descriptorIndex := 339, attributes := #[] }, { accessFlags := 25, nameIndex := 361, descriptorIndex := 339, attributes := #[] }, { accessFlags := 26, nameIndex := 364, descriptorIndex := 339, attributes := #[] }, { accessFlags := 26, nameIndex := 365, descriptorIndex := 339, attributes := #[] }, { accessFlags := 26, nameIndex := 172, descriptorIndex := 173, attributes := #[] }, { accessFlags := 26, nameIndex := 176, descriptorIndex := 173, attributes := #[] }, { accessFlags := 8, nameIndex := 344, descriptorIndex := 339, attributes := #[] }, { accessFlags := 8, nameIndex := 338, descriptorIndex := 339, attributes := #[] }, { accessFlags := 4120, nameIndex := 245, descriptorIndex := 246, attributes := #[] }])
  fields := #[{ name := "E", type := .double, accessFlags := 25, slot := 0, constantValue := 0 }, { name := "PI", type := .double, accessFlags := 25, slot := 1, constantValue := 0 }, { name := "TAU", type := .double, accessFlags := 25, slot := 2, constantValue := 0 }, { name := "DEGREES_TO_RADIANS", type := .double, accessFlags := 26, slot := 3, constantValue := 0 }, { name := "RADIANS_TO_DEGREES", type := .double, accessFlags := 26, slot := 4, constantValue := 0 }, { name := "negativeZeroFloatBits", type := .long, accessFlags := 26, slot := 5, constantValue := 0 }, { name := "negativeZeroDoubleBits", type := .long, accessFlags := 26, slot := 6, constantValue := 0 }, { name := "twoToTheDoubleScaleUp", type := .double, accessFlags := 8, slot := 7, constantValue := 0 }, { name := "twoToTheDoubleScaleDown", type := .double, accessFlags := 8, slot := 8, constantValue := 0 }, { name := "$assertionsDisabled", type := .boolean, accessFlags := 4120, slot := 9, constantValue := 0 }]
  methods := #[k4m0, k4m1, k4m2]
  instanceTypes := #[]
  staticTypes := #[.double, .double, .double, .double, .double, .long, .long, .double, .double, .boolean]
  resolved := Array.replicate 460 none
  statics := none }

def pool5 : Array CpInfo := pool [(8, .class_ 10), (1, u "java/lang/Iterable"), (24, .class_ 36), (0, u "java/lang/Object")] 25

/-- java/lang/Iterable -/
def k5 : Class := { plain "java/lang/Iterable" (some 0) with
  accessFlags := 1537
  interfaces := #[]
  cf := some (fileOf pool5 8 #[] #[] 1537 35 #[] #[])
  fields := #[]
  methods := #[]
  instanceTypes := #[]
  staticTypes := #[]
  resolved := Array.replicate 62 none
  statics := none }

def pool6 : Array CpInfo := pool [(10, .class_ 12), (1, u "java/util/Collection"), (47, .class_ 61), (0, u "java/lang/Object"), (0, .class_ 63), (0, u "java/lang/Iterable")] 51

/-- java/util/Collection -/
def k6 : Class := { plain "java/util/Collection" (some 0) with
  accessFlags := 1537
  interfaces := #[5]
  cf := some (fileOf pool6 10 #[] #[] 1537 60 #[62] #[])
  fields := #[]
  methods := #[]
  instanceTypes := #[]
  staticTypes := #[]
  resolved := Array.replicate 115 none
  statics := none }

def pool7 : Array CpInfo := pool [(1, .methodref 2 3), (0, .class_ 4), (0, .nameAndType 5 6), (0, u "java/lang/Object"), (0, u "<init>"), (0, u "()V"), (1, .class_ 10), (1, u "java/util/AbstractCollection"), (66, .class_ 78), (0, u "java/util/Collection")] 81

def k7c0 : Code := { maxStack := 1, maxLocals := 1, code := jdk_22_method_1_code, exceptionTable := #[], attributes := #[] }
def k7m0 : Method := { name := "<init>", desc := "()V", sig := { parameters := [], returnType := none }, accessFlags := 4, code := some k7c0 }
/-- java/util/AbstractCollection -/
def k7 : Class := { plain "java/util/AbstractCollection" (some 0) with
  accessFlags := 1057
  interfaces := #[6]
  cf := some (fileOf pool7 8 #[] #[{ accessFlags := 4, nameIndex := 5, descriptorIndex := 6, attributes := #[] }] 1057 2 #[77] #[])
  fields := #[]
  methods := #[k7m0]
  instanceTypes := #[]
  staticTypes := #[]
  resolved := Array.replicate 160 none
  statics := none }

def pool8 : Array CpInfo := pool [(8, .class_ 10), (1, u "java/util/SequencedCollection"), (15, .class_ 27), (0, u "java/lang/Object"), (0, .class_ 29), (0, u "java/util/Collection")] 27

/-- java/util/SequencedCollection -/
def k8 : Class := { plain "java/util/SequencedCollection" (some 0) with
  accessFlags := 1537
  interfaces := #[6]
  cf := some (fileOf pool8 8 #[] #[] 1537 26 #[28] #[])
  fields := #[]
  methods := #[]
  instanceTypes := #[]
  staticTypes := #[]
  resolved := Array.replicate 57 none
  statics := none }

def pool9 : Array CpInfo := pool [(8, .class_ 10), (1, u "java/util/List"), (49, u "add"), (3, u "(Ljava/lang/Object;)Z"), (10, u "get"), (0, u "(I)Ljava/lang/Object;"), (2, u "size"), (0, u "()I"), (22, .class_ 104), (0, u "java/lang/Object"), (15, .class_ 121), (0, u "java/util/SequencedCollection")] 129

def k9m0 : Method := { name := "size", desc := "()I", sig := { parameters := [], returnType := some .int }, accessFlags := 1025, code := none }
def k9m1 : Method := { name := "add", desc := "(Ljava/lang/Object;)Z", sig := { parameters := [(.object "java/lang/Object")], returnType := some .boolean }, accessFlags := 1025, code := none }
def k9m2 : Method := { name := "get", desc := "(I)Ljava/lang/Object;", sig := { parameters := [.int], returnType := some (.object "java/lang/Object") }, accessFlags := 1025, code := none }
/-- java/util/List -/
def k9 : Class := { plain "java/util/List" (some 0) with
  accessFlags := 1537
  interfaces := #[8]
  cf := some (fileOf pool9 8 #[] #[{ accessFlags := 1025, nameIndex := 79, descriptorIndex := 80, attributes := #[] }, { accessFlags := 1025, nameIndex := 60, descriptorIndex := 64, attributes := #[] }, { accessFlags := 1025, nameIndex := 75, descriptorIndex := 76, attributes := #[] }] 1537 103 #[120] #[])
  fields := #[]
  methods := #[k9m0, k9m1, k9m2]
  instanceTypes := #[]
  staticTypes := #[]
  resolved := Array.replicate 251 none
  statics := none }

def pool10 : Array CpInfo := pool [(1, .methodref 2 3), (0, .class_ 4), (0, .nameAndType 5 6), (0, u "java/util/AbstractCollection"), (0, u "<init>"), (0, u "()V"), (0, .fieldref 8 9), (0, .class_ 10), (0, .nameAndType 11 12), (0, u "java/util/AbstractList"), (0, u "modCount"), (0, u "I"), (64, .class_ 78), (0, u "java/util/AbstractList$Itr"), (3, .class_ 83), (0, u "java/util/AbstractList$ListItr"), (9, .class_ 94), (0, u "java/util/AbstractList$RandomAccessSubList"), (3, .class_ 99), (0, u "java/util/AbstractList$SubList"), (33, .class_ 134), (0, u "java/util/List"), (73, .class_ 209), (0, u "java/util/AbstractList$SubList$1"), (0, .class_ 211), (0, u "java/util/AbstractList$RandomAccessSpliterator")] 6

def k10c0 : Code := { maxStack := 2, maxLocals := 1, code := jdk_39_method_1_code, exceptionTable := #[], attributes := #[] }
def k10m0 : Method := { name := "<init>", desc := "()V", sig := { parameters := [], returnType := none }, accessFlags := 4, code := some k10c0 }
/-- java/util/AbstractList -/
def k10 : Class := { plain "java/util/AbstractList" (some 7) with
  accessFlags := 1057
  interfaces := #[9]
  cf := some (fileOf pool10 8 #[.nestMembers #[93, 98, 208, 210, 82, 77]] #[{ accessFlags := 4, nameIndex := 5, descriptorIndex := 6, attributes := #[] }] 1057 2 #[133] #[{ accessFlags := 132, nameIndex := 11, descriptorIndex := 12, attributes := #[] }])
  fields := #[{ name := "modCount", type := .int, accessFlags := 132, slot := 0, constantValue := 0 }]
  methods := #[k10m0]
  instanceTypes := #[.int]
  staticTypes := #[]
  resolved := Array.replicate 218 none
  statics := none }

def pool11 : Array CpInfo := pool [(1, .class_ 2), (0, u "java/util/RandomAccess"), (0, .class_ 4), (0, u "java/lang/Object")] 2

/-- java/util/RandomAccess -/
def k11 : Class := { plain "java/util/RandomAccess" (some 0) with
  accessFlags := 1537
  interfaces := #[]
  cf := some (fileOf pool11 1 #[] #[] 1537 3 #[] #[])
  fields := #[]
  methods := #[]
  instanceTypes := #[]
  staticTypes := #[]
  resolved := Array.replicate 7 none
  statics := none }

def pool12 : Array CpInfo := pool [(1, .class_ 2), (0, u "java/io/Serializable"), (0, .class_ 4), (0, u "java/lang/Object")] 2

/-- java/io/Serializable -/
def k12 : Class := { plain "java/io/Serializable" (some 0) with
  accessFlags := 1537
  interfaces := #[]
  cf := some (fileOf pool12 1 #[] #[] 1537 3 #[] #[])
  fields := #[]
  methods := #[]
  instanceTypes := #[]
  staticTypes := #[]
  resolved := Array.replicate 7 none
  statics := none }

def pool13 : Array CpInfo := pool [(1, .methodref 2 3), (0, .class_ 4), (0, .nameAndType 5 6), (0, u "java/util/AbstractList"), (0, u "<init>"), (0, u "()V"), (0, .class_ 8), (0, u "java/lang/Object"), (0, .fieldref 10 11), (0, .class_ 12), (0, .nameAndType 13 14), (0, u "java/util/ArrayList"), (0, u "elementData"), (0, u "[Ljava/lang/Object;"), (0, .fieldref 10 16), (0, .nameAndType 17 14), (0, u "EMPTY_ELEMENTDATA"), (23, u "DEFAULTCAPACITY_EMPTY_ELEMENTDATA"), (6, .fieldref 10 49), (0, .nameAndType 50 51), (0, u "size"), (0, u "I"), (11, .fieldref 10 64), (0, .nameAndType 65 51), (0, u "modCount"), (18, u "(II)I"), (11, u "(Ljava/lang/Object;)Z"), (21, .methodref 119 120), (0, .class_ 121), (0, .nameAndType 122 84), (0, u "java/util/Objects"), (0, u "checkIndex"), (0, .methodref 10 124), (0, .nameAndType 13 125), (0, u "(I)Ljava/lang/Object;"), (5, .methodref 10 132), (0, .nameAndType 133 134), (0, u "add"), (0, u "(Ljava/lang/Object;[Ljava/lang/Object;I)V"), (3, u "(I)V"), (9, .class_ 149), (0, u "java/util/List"), (36, u "()I"), (75, .class_ 263), (0, u "java/util/ArrayList$ListItr"), (3, .class_ 268), (0, u "java/util/ArrayList$Itr"), (7, .class_ 277), (0, u "java/util/ArrayList$SubList"), (12, .class_ 291), (0, u "java/util/ArrayList$ArrayListSpliterator"), (37, .class_ 330), (0, u "java/util/RandomAccess"), (0, .class_ 332), (0, u "java/lang/Cloneable"), (0, .class_ 334), (0, u "java/io/Serializable"), (0, u "serialVersionUID"), (0, u "J"), (3, u "DEFAULT_CAPACITY"), (40, u "get"), (118, .class_ 501), (0, u "java/util/ArrayList$SubList$2"), (0, .class_ 503), (0, u "java/util/ArrayList$SubList$1")] 5

def k13c0 : Code := { maxStack := 4, maxLocals := 2, code := jdk_38_method_1_code, exceptionTable := #[], attributes := #[] }
def k13m0 : Method := { name := "<init>", desc := "(I)V", sig := { parameters := [.int], returnType := none }, accessFlags := 1, code := some k13c0 }
def k13m1 : Method := { name := "<init>", desc := "()V", sig := { parameters := [], returnType := none }, accessFlags := 1, code := none }
def k13c2 : Code := { maxStack := 1, maxLocals := 1, code := jdk_38_method_8_code, exceptionTable := #[], attributes := #[] }
def k13m2 : Method := { name := "size", desc := "()I", sig := { parameters := [], returnType := some .int }, accessFlags := 1, code := some k13c2 }
def k13c3 : Code := { maxStack := 2, maxLocals := 2, code := jdk_38_method_18_code, exceptionTable := #[], attributes := #[] }
def k13m3 : Method := { name := "elementData", desc := "(I)Ljava/lang/Object;", sig := { parameters := [.int], returnType := some (.object "java/lang/Object") }, accessFlags := 0, code := some k13c3 }
def k13c4 : Code := { maxStack := 2, maxLocals := 2, code := jdk_38_method_20_code, exceptionTable := #[], attributes := #[] }
def k13m4 : Method := { name := "get", desc := "(I)Ljava/lang/Object;", sig := { parameters := [.int], returnType := some (.object "java/lang/Object") }, accessFlags := 1, code := some k13c4 }
def k13c5 : Code := { maxStack := 3, maxLocals := 4, code := jdk_38_method_24_code, exceptionTable := #[], attributes := #[] }
def k13m5 : Method := { name := "add", desc := "(Ljava/lang/Object;[Ljava/lang/Object;I)V", sig := { parameters := [(.object "java/lang/Object"), (.array (.object "java/lang/Object")), .int], returnType := none }, accessFlags := 2, code := some k13c5 }
def k13c6 : Code := { maxStack := 4, maxLocals := 2, code := jdk_38_method_25_code, exceptionTable := #[], attributes := #[] }
def k13m6 : Method := { name := "add", desc := "(Ljava/lang/Object;)Z", sig := { parameters := [(.object "java/lang/Object")], returnType := some .boolean }, accessFlags := 1, code := some k13c6 }
/-- java/util/ArrayList -/
def k13 : Class := { plain "java/util/ArrayList" (some 10) with
  accessFlags := 33
  interfaces := #[9, 11, 3, 12]
  cf := some (fileOf pool13 10 #[.nestMembers #[290, 276, 500, 502, 262, 267]] #[{ accessFlags := 1, nameIndex := 5, descriptorIndex := 138, attributes := #[] }, { accessFlags := 1, nameIndex := 5, descriptorIndex := 6, attributes := #[] }, { accessFlags := 1, nameIndex := 50, descriptorIndex := 186, attributes := #[] }, { accessFlags := 0, nameIndex := 13, descriptorIndex := 125, attributes := #[] }, { accessFlags := 1, nameIndex := 381, descriptorIndex := 125, attributes := #[] }, { accessFlags := 2, nameIndex := 133, descriptorIndex := 134, attributes := #[] }, { accessFlags := 1, nameIndex := 133, descriptorIndex := 96, attributes := #[] }] 33 2 #[148, 329, 331, 333] #[{ accessFlags := 26, nameIndex := 335, descriptorIndex := 336, attributes := #[] }, { accessFlags := 26, nameIndex := 340, descriptorIndex := 51, attributes := #[] }, { accessFlags := 26, nameIndex := 17, descriptorIndex := 14, attributes := #[] }, { accessFlags := 26, nameIndex := 41, descriptorIndex := 14, attributes := #[] }, { accessFlags := 128, nameIndex := 13, descriptorIndex := 14, attributes := #[] }, { accessFlags := 2, nameIndex := 50, descriptorIndex := 51, attributes := #[] }])
  fields := #[{ name := "serialVersionUID", type := .long, accessFlags := 26, slot := 0, constantValue := 0 }, { name := "DEFAULT_CAPACITY", type := .int, accessFlags := 26, slot := 1, constantValue := 0 }, { name := "EMPTY_ELEMENTDATA", type := (.array (.object "java/lang/Object")), accessFlags := 26, slot := 2, constantValue := 0 }, { name := "DEFAULTCAPACITY_EMPTY_ELEMENTDATA", type := (.array (.object "java/lang/Object")), accessFlags := 26, slot := 3, constantValue := 0 }, { name := "elementData", type := (.array (.object "java/lang/Object")), accessFlags := 128, slot := 1, constantValue := 0 }, { name := "size", type := .int, accessFlags := 2, slot := 2, constantValue := 0 }]
  methods := #[k13m0, k13m1, k13m2, k13m3, k13m4, k13m5, k13m6]
  instanceTypes := #[.int, (.array (.object "java/lang/Object")), .int]
  staticTypes := #[.long, .int, (.array (.object "java/lang/Object")), (.array (.object "java/lang/Object"))]
  resolved := Array.replicate 509 none
  statics := some 0 }

def pool14 : Array CpInfo := pool [(1, .methodref 2 3), (0, .class_ 4), (0, .nameAndType 5 6), (0, u "java/lang/Object"), (0, u "<init>"), (0, u "()V"), (1, .class_ 10), (1, u "java/lang/Number"), (2, .class_ 14), (0, u "java/io/Serializable"), (0, u "serialVersionUID"), (0, u "J")] 20

def k14c0 : Code := { maxStack := 1, maxLocals := 1, code := jdk_18_method_1_code, exceptionTable := #[], attributes := #[] }
def k14m0 : Method := { name := "<init>", desc := "()V", sig := { parameters := [], returnType := none }, accessFlags := 1, code := some k14c0 }
/-- java/lang/Number -/
def k14 : Class := { plain "java/lang/Number" (some 0) with
  accessFlags := 1057
  interfaces := #[12]
  cf := some (fileOf pool14 8 #[] #[{ accessFlags := 1, nameIndex := 5, descriptorIndex := 6, attributes := #[] }] 1057 2 #[13] #[{ accessFlags := 26, nameIndex := 15, descriptorIndex := 16, attributes := #[] }])
  fields := #[{ name := "serialVersionUID", type := .long, accessFlags := 26, slot := 0, constantValue := 0 }]
  methods := #[k14m0]
  instanceTypes := #[]
  staticTypes := #[.long]
  resolved := Array.replicate 37 none
  statics := none }

def pool15 : Array CpInfo := pool [(1, .class_ 2), (0, u "java/lang/Comparable"), (0, .class_ 4), (0, u "java/lang/Object")] 7

/-- java/lang/Comparable -/
def k15 : Class := { plain "java/lang/Comparable" (some 0) with
  accessFlags := 1537
  interfaces := #[]
  cf := some (fileOf pool15 1 #[] #[] 1537 3 #[] #[])
  fields := #[]
  methods := #[]
  instanceTypes := #[]
  staticTypes := #[]
  resolved := Array.replicate 12 none
  statics := none }

def pool16 : Array CpInfo := pool [(3, .class_ 4), (0, u "java/math/BigDecimal"), (6, .methodref 12 13), (0, .class_ 14), (0, .nameAndType 15 16), (0, u "java/lang/Number"), (0, u "<init>"), (0, u "()V"), (0, .fieldref 3 18), (0, .nameAndType 19 20), (0, u "scale"), (0, u "I"), (0, .fieldref 3 22), (0, .nameAndType 23 20), (0, u "precision"), (0, .fieldref 3 25), (0, .nameAndType 26 27), (0, u "intCompact"), (0, u "J"), (0, .fieldref 3 29), (0, .nameAndType 30 31), (0, u "intVal"), (0, u "Ljava/math/BigInteger;"), (65, u "LONG_TEN_POWERS_TABLE"), (0, u "[J"), (16, u "(J)I"), (9, .long 9223372036854775808), (61, u "ZERO"), (2, u "INFLATED_BIGINT"), (4, u "valueOf"), (10, u "TWO"), (32, .methodref 3 240), (0, .nameAndType 241 242), (0, u "zeroValueOf"), (0, u "(I)Ljava/math/BigDecimal;"), (0, .methodref 3 244), (0, .nameAndType 15 245), (0, u "(Ljava/math/BigInteger;JII)V"), (2, u "ZERO_THROUGH_TEN"), (0, u "[Ljava/math/BigDecimal;"), (0, .fieldref 3 251), (0, .nameAndType 252 249), (0, u "ZERO_SCALED_BY"), (60, u "$assertionsDisabled"), (0, u "Z"), (10, .methodref 3 326), (0, .nameAndType 327 115), (0, u "checkScale"), (2, u "(JI)Ljava/math/BigDecimal;"), (147, u "ONE_TENTH"), (0, u "Ljava/math/BigDecimal;"), (5, u "TEN"), (14, .class_ 502), (1, u "java/math/BigDecimal$1"), (15, u "ONE_HALF"), (16, u "ONE"), (107, u "stringCache"), (0, u "Ljava/lang/String;"), (46, u "()J"), (5, .class_ 699), (1, u "java/math/BigDecimal$LongOverflow"), (5, u "longValueExact"), (2, u "FLOAT_10_POW"), (0, u "[F"), (39, u "DOUBLE_10_POW"), (0, u "[D"), (19, .class_ 772), (1, u "java/math/BigDecimal$StringBuilderHelper"), (35, u "BIG_TEN_POWERS_TABLE_MAX"), (2, u "BIG_TEN_POWERS_TABLE"), (0, u "[Ljava/math/BigInteger;"), (14, u "THRESHOLDS_TABLE"), (23, .class_ 853), (1, u "java/math/BigDecimal$UnsafeHolder"), (214, u "LONGLONG_TEN_POWERS_TABLE"), (0, u "[[J"), (112, u "BIG_TEN_POWERS_TABLE_INITLEN"), (113, .class_ 1297), (0, u "java/lang/Comparable"), (0, u "L"), (0, u "D"), (1, u "P_F"), (1, u "Q_MIN_F"), (1, u "Q_MAX_F"), (1, u "P_D"), (1, u "Q_MIN_D"), (1, u "Q_MAX_D"), (1, u "INFLATED"), (0, u "MAX_COMPACT_DIGITS"), (1, u "serialVersionUID"), (2, u "HALF_LONG_MAX_VALUE"), (0, u "HALF_LONG_MIN_VALUE"), (0, u "ROUND_UP"), (6, u "ROUND_DOWN"), (1, u "ROUND_CEILING"), (1, u "ROUND_FLOOR"), (1, u "ROUND_HALF_UP"), (1, u "ROUND_HALF_DOWN"), (1, u "ROUND_HALF_EVEN"), (1, u "ROUND_UNNECESSARY"), (1, u "DIV_NUM_BASE"), (116, u "movePointRight")] 177

def k16c0 : Code := { maxStack := 3, maxLocals := 6, code := jdk_17_method_1_code, exceptionTable := #[], attributes := #[] }
def k16m0 : Method := { name := "<init>", desc := "(Ljava/math/BigInteger;JII)V", sig := { parameters := [(.object "java/math/BigInteger"), .long, .int, .int], returnType := none }, accessFlags := 0, code := some k16c0 }
def k16c1 : Code := { maxStack := 7, maxLocals := 3, code := jdk_17_method_20_code, exceptionTable := #[], attributes := #[] }
def k16m1 : Method := { name := "valueOf", desc := "(JI)Ljava/math/BigDecimal;", sig := { parameters := [.long, .int], returnType := some (.object "java/math/BigDecimal") }, accessFlags := 9, code := some k16c1 }
def k16c2 : Code := { maxStack := 7, maxLocals := 1, code := jdk_17_method_24_code, exceptionTable := #[], attributes := #[] }
def k16m2 : Method := { name := "zeroValueOf", desc := "(I)Ljava/math/BigDecimal;", sig := { parameters := [.int], returnType := some (.object "java/math/BigDecimal") }, accessFlags := 8, code := some k16c2 }
def k16c3 : Code := { maxStack := 7, maxLocals := 4, code := jdk_17_method_67_code, exceptionTable := #[], attributes := #[] }
def k16m3 : Method := { name := "movePointRight", desc := "(I)Ljava/math/BigDecimal;", sig := { parameters := [.int], returnType := some (.object "java/math/BigDecimal") }, accessFlags := 1, code := some k16c3 }
def k16c4 : Code := { maxStack := 4, maxLocals := 2, code := jdk_17_method_84_code, exceptionTable := #[], attributes := #[] }
def k16m4 : Method := { name := "longValueExact", desc := "()J", sig := { parameters := [], returnType := some .long }, accessFlags := 1, code := some k16c4 }
def k16c5 : Code := { maxStack := 4, maxLocals := 5, code := jdk_17_method_106_code, exceptionTable := #[], attributes := #[] }
def k16m5 : Method := { name := "checkScale", desc := "(J)I", sig := { parameters := [.long], returnType := some .int }, accessFlags := 2, code := some k16c5 }
/-- java/math/BigDecimal -/
def k16 : Class := { plain "java/math/BigDecimal" (some 14) with
  accessFlags := 33
  interfaces := #[15]
  cf := some (fileOf pool16 3 #[.nestMembers #[500, 851, 770, 697]] #[{ accessFlags := 0, nameIndex := 15, descriptorIndex := 245, attributes := #[] }, { accessFlags := 9, nameIndex := 195, descriptorIndex := 330, attributes := #[] }, { accessFlags := 8, nameIndex := 241, descriptorIndex := 242, attributes := #[] }, { accessFlags := 1, nameIndex := 1459, descriptorIndex := 242, attributes := #[] }, { accessFlags := 1, nameIndex := 705, descriptorIndex := 691, attributes := #[] }, { accessFlags := 2, nameIndex := 327, descriptorIndex := 115, attributes := #[] }] 33 12 #[1296] #[{ accessFlags := 26, nameIndex := 1298, descriptorIndex := 1299, attributes := #[] }, { accessFlags := 26, nameIndex := 1301, descriptorIndex := 20, attributes := #[] }, { accessFlags := 26, nameIndex := 1303, descriptorIndex := 20, attributes := #[] }, { accessFlags := 26, nameIndex := 1305, descriptorIndex := 20, attributes := #[] }, { accessFlags := 26, nameIndex := 1307, descriptorIndex := 20, attributes := #[] }, { accessFlags := 26, nameIndex := 1309, descriptorIndex := 20, attributes := #[] }, { accessFlags := 26, nameIndex := 1311, descriptorIndex := 20, attributes := #[] }, { accessFlags := 18, nameIndex := 30, descriptorIndex := 31, attributes := #[] }, { accessFlags := 18, nameIndex := 19, descriptorIndex := 20, attributes := #[] }, { accessFlags := 130, nameIndex := 23, descriptorIndex := 20, attributes := #[] }, { accessFlags := 130, nameIndex := 643, descriptorIndex := 644, attributes := #[] }, { accessFlags := 24, nameIndex := 1313, descriptorIndex := 27, attributes := #[] }, { accessFlags := 26, nameIndex := 190, descriptorIndex := 31, attributes := #[] }, { accessFlags := 146, nameIndex := 26, descriptorIndex := 27, attributes := #[] }, { accessFlags := 26, nameIndex := 1314, descriptorIndex := 20, attributes := #[] }, { accessFlags := 26, nameIndex := 1316, descriptorIndex := 27, attributes := #[] }, { accessFlags := 26, nameIndex := 248, descriptorIndex := 249, attributes := #[] }, { accessFlags := 26, nameIndex := 252, descriptorIndex := 249, attributes := #[] }, { accessFlags := 26, nameIndex := 1319, descriptorIndex := 27, attributes := #[] }, { accessFlags := 26, nameIndex := 1320, descriptorIndex := 27, attributes := #[] }, { accessFlags := 25, nameIndex := 187, descriptorIndex := 479, attributes := #[] }, { accessFlags := 25, nameIndex := 535, descriptorIndex := 479, attributes := #[] }, { accessFlags := 25, nameIndex := 206, descriptorIndex := 479, attributes := #[] }, { accessFlags := 25, nameIndex := 485, descriptorIndex := 479, attributes := #[] }, { accessFlags := 26, nameIndex := 478, descriptorIndex := 479, attributes := #[] }, { accessFlags := 26, nameIndex := 518, descriptorIndex := 479, attributes := #[] }, { accessFlags := 25, nameIndex := 1321, descriptorIndex := 20, attributes := #[] }, { accessFlags := 25, nameIndex := 1328, descriptorIndex := 20, attributes := #[] }, { accessFlags := 25, nameIndex := 1330, descriptorIndex := 20, attributes := #[] }, { accessFlags := 25, nameIndex := 1332, descriptorIndex := 20, attributes := #[] }, { accessFlags := 25, nameIndex := 1334, descriptorIndex := 20, attributes := #[] }, { accessFlags := 25, nameIndex := 1336, descriptorIndex := 20, attributes := #[] }, { accessFlags := 25, nameIndex := 1338, descriptorIndex := 20, attributes := #[] }, { accessFlags := 25, nameIndex := 1340, descriptorIndex := 20, attributes := #[] }, { accessFlags := 26, nameIndex := 749, descriptorIndex := 750, attributes := #[] }, { accessFlags := 26, nameIndex := 708, descriptorIndex := 709, attributes := #[] }, { accessFlags := 26, nameIndex := 97, descriptorIndex := 98, attributes := #[] }, { accessFlags := 74, nameIndex := 811, descriptorIndex := 812, attributes := #[] }, { accessFlags := 26, nameIndex := 1182, descriptorIndex := 20, attributes := #[] }, { accessFlags := 26, nameIndex := 808, descriptorIndex := 20, attributes := #[] }, { accessFlags := 26, nameIndex := 827, descriptorIndex := 98, attributes := #[] }, { accessFlags := 26, nameIndex := 1342, descriptorIndex := 27, attributes := #[] }, { accessFlags := 26, nameIndex := 1068, descriptorIndex := 1069, attributes := #[] }, { accessFlags := 4120, nameIndex := 313, descriptorIndex := 314, attributes := #[] }])
  fields := #[{ name := "L", type := .double, accessFlags := 26, slot := 0, constantValue := 0 }, { name := "P_F", type := .int, accessFlags := 26, slot := 1, constantValue := 0 }, { name := "Q_MIN_F", type := .int, accessFlags := 26, slot := 2, constantValue := 0 }, { name := "Q_MAX_F", type := .int, accessFlags := 26, slot := 3, constantValue := 0 }, { name := "P_D", type := .int, accessFlags := 26, slot := 4, constantValue := 0 }, { name := "Q_MIN_D", type := .int, accessFlags := 26, slot := 5, constantValue := 0 }, { name := "Q_MAX_D", type := .int, accessFlags := 26, slot := 6, constantValue := 0 }, { name := "intVal", type := (.object "java/math/BigInteger"), accessFlags := 18, slot := 0, constantValue := 0 }, { name := "scale", type := .int, accessFlags := 18, slot := 1, constantValue := 0 }, { name := "precision", type := .int, accessFlags := 130, slot := 2, constantValue := 0 }, { name := "stringCache", type := (.object "java/lang/String"), accessFlags := 130, slot := 3, constantValue := 0 }, { name := "INFLATED", type := .long, accessFlags := 24, slot := 7, constantValue := 0 }, { name := "INFLATED_BIGINT", type := (.object "java/math/BigInteger"), accessFlags := 26, slot := 8, constantValue := 0 }, { name := "intCompact", type := .long, accessFlags := 146, slot := 4, constantValue := 0 }, { name := "MAX_COMPACT_DIGITS", type := .int, accessFlags := 26, slot := 9, constantValue := 0 }, { name := "serialVersionUID", type := .long, accessFlags := 26, slot := 10, constantValue := 0 }, { name := "ZERO_THROUGH_TEN", type := (.array (.object "java/math/BigDecimal")), accessFlags := 26, slot := 11, constantValue := 0 }, { name := "ZERO_SCALED_BY", type := (.array (.object "java/math/BigDecimal")), accessFlags := 26, slot := 12, constantValue := 0 }, { name := "HALF_LONG_MAX_VALUE", type := .long, accessFlags := 26, slot := 13, constantValue := 0 }, { name := "HALF_LONG_MIN_VALUE", type := .long, accessFlags := 26, slot := 14, constantValue := 0 }, { name := "ZERO", type := (.object "java/math/BigDecimal"), accessFlags := 25, slot := 15, constantValue := 0 }, { name := "ONE", type := (.object "java/math/BigDecimal"), accessFlags := 25, slot := 16, constantValue := 0 }, { name := "TWO", type := (.object "java/math/BigDecimal"), accessFlags := 25, slot := 17, constantValue := 0 }, { name := "TEN", type := (.object "java/math/BigDecimal"), accessFlags := 25, slot := 18, constantValue := 0 }, { name := "ONE_TENTH", type := (.object "java/math/BigDecimal"), accessFlags := 26, slot := 19, constantValue := 0 }, { name := "ONE_HALF", type := (.object "java/math/BigDecimal"), accessFlags := 26, slot := 20, constantValue := 0 }, { name := "ROUND_UP", type := .int, accessFlags := 25, slot := 21, constantValue := 0 }, { name := "ROUND_DOWN", type := .int, accessFlags := 25, slot := 22, constantValue := 0 }, { name := "ROUND_CEILING", type := .int, accessFlags := 25, slot := 23, constantValue := 0 }, { name := "ROUND_FLOOR", type := .int, accessFlags := 25, slot := 24, constantValue := 0 }, { name := "ROUND_HALF_UP", type := .int, accessFlags := 25, slot := 25, constantValue := 0 }, { name := "ROUND_HALF_DOWN", type := .int, accessFlags := 25, slot := 26, constantValue := 0 }, { name := "ROUND_HALF_EVEN", type := .int, accessFlags := 25, slot := 27, constantValue := 0 }, { name := "ROUND_UNNECESSARY", type := .int, accessFlags := 25, slot := 28, constantValue := 0 }, { name := "DOUBLE_10_POW", type := (.array .double), accessFlags := 26, slot := 29, constantValue := 0 }, { name := "FLOAT_10_POW", type := (.array .float), accessFlags := 26, slot := 30, constantValue := 0 }, { name := "LONG_TEN_POWERS_TABLE", type := (.array .long), accessFlags := 26, slot := 31, constantValue := 0 }, { name := "BIG_TEN_POWERS_TABLE", type := (.array (.object "java/math/BigInteger")), accessFlags := 74, slot := 32, constantValue := 0 }, { name := "BIG_TEN_POWERS_TABLE_INITLEN", type := .int, accessFlags := 26, slot := 33, constantValue := 0 }, { name := "BIG_TEN_POWERS_TABLE_MAX", type := .int, accessFlags := 26, slot := 34, constantValue := 0 }, { name := "THRESHOLDS_TABLE", type := (.array .long), accessFlags := 26, slot := 35, constantValue := 0 }, { name := "DIV_NUM_BASE", type := .long, accessFlags := 26, slot := 36, constantValue := 0 }, { name := "LONGLONG_TEN_POWERS_TABLE", type := (.array (.array .long)), accessFlags := 26, slot := 37, constantValue := 0 }, { name := "$assertionsDisabled", type := .boolean, accessFlags := 4120, slot := 38, constantValue := 0 }]
  methods := #[k16m0, k16m1, k16m2, k16m3, k16m4, k16m5]
  instanceTypes := #[(.object "java/math/BigInteger"), .int, .int, (.object "java/lang/String"), .long]
  staticTypes := #[.double, .int, .int, .int, .int, .int, .int, .long, (.object "java/math/BigInteger"), .int, .long, (.array (.object "java/math/BigDecimal")), (.array (.object "java/math/BigDecimal")), .long, .long, (.object "java/math/BigDecimal"), (.object "java/math/BigDecimal"), (.object "java/math/BigDecimal"), (.object "java/math/BigDecimal"), (.object "java/math/BigDecimal"), (.object "java/math/BigDecimal"), .int, .int, .int, .int, .int, .int, .int, .int, (.array .double), (.array .float), (.array .long), (.array (.object "java/math/BigInteger")), .int, .int, (.array .long), .long, (.array (.array .long)), .boolean]
  resolved := Array.replicate 1637 none
  statics := some 1 }

def pool17 : Array CpInfo := pool [(2, .class_ 4), (1, u "java/lang/Object"), (0, u "<init>"), (0, u "()V"), (35, .class_ 44), (1, u "java/util/Objects"), (60, .methodref 106 107), (0, .class_ 108), (0, .nameAndType 109 110), (0, u "jdk/internal/util/Preconditions"), (0, u "checkIndex"), (0, u "(IILjava/util/function/BiFunction;)I"), (60, u "(II)I")] 12

def k17m0 : Method := { name := "<init>", desc := "()V", sig := { parameters := [], returnType := none }, accessFlags := 2, code := none }
def k17c1 : Code := { maxStack := 3, maxLocals := 2, code := jdk_31_method_17_code, exceptionTable := #[], attributes := #[] }
def k17m1 : Method := { name := "checkIndex", desc := "(II)I", sig := { parameters := [.int, .int], returnType := some .int }, accessFlags := 9, code := some k17c1 }
/-- java/util/Objects -/
def k17 : Class := { plain "java/util/Objects" (some 0) with
  accessFlags := 49
  interfaces := #[]
  cf := some (fileOf pool17 42 #[] #[{ accessFlags := 2, nameIndex := 5, descriptorIndex := 6, attributes := #[] }, { accessFlags := 9, nameIndex := 109, descriptorIndex := 171, attributes := #[] }] 49 2 #[] #[])
  fields := #[]
  methods := #[k17m0, k17m1]
  instanceTypes := #[]
  staticTypes := #[]
  resolved := Array.replicate 184 none
  statics := none }

def pool18 : Array CpInfo := pool [(2, .class_ 4), (1, u "java/lang/Object"), (0, u "<init>"), (0, u "()V"), (17, .class_ 26), (1, u "jdk/internal/util/Preconditions"), (6, u "checkIndex"), (21, .class_ 56), (0, u "jdk/internal/util/Preconditions$4"), (57, .class_ 115), (0, u "jdk/internal/util/Preconditions$1"), (7, u "SIOOBE_FORMATTER"), (0, u "Ljava/util/function/BiFunction;"), (0, .class_ 126), (0, u "jdk/internal/util/Preconditions$2"), (3, u "AIOOBE_FORMATTER"), (0, .class_ 132), (0, u "jdk/internal/util/Preconditions$3"), (3, u "IOOBE_FORMATTER"), (41, u "(IILjava/util/function/BiFunction;)I")] 15

def k18m0 : Method := { name := "<init>", desc := "()V", sig := { parameters := [], returnType := none }, accessFlags := 1, code := none }
def k18c1 : Code := { maxStack := 3, maxLocals := 3, code := jdk_41_method_11_code, exceptionTable := #[], attributes := #[] }
def k18m1 : Method := { name := "checkIndex", desc := "(IILjava/util/function/BiFunction;)I", sig := { parameters := [.int, .int, (.object "java/util/function/BiFunction")], returnType := some .int }, accessFlags := 9, code := some k18c1 }
/-- jdk/internal/util/Preconditions -/
def k18 : Class := { plain "jdk/internal/util/Preconditions" (some 0) with
  accessFlags := 33
  interfaces := #[]
  cf := some (fileOf pool18 24 #[.nestMembers #[55, 131, 125, 114]] #[{ accessFlags := 1, nameIndex := 5, descriptorIndex := 6, attributes := #[] }, { accessFlags := 9, nameIndex := 33, descriptorIndex := 178, attributes := #[] }] 33 2 #[] #[{ accessFlags := 25, nameIndex := 123, descriptorIndex := 124, attributes := #[] }, { accessFlags := 25, nameIndex := 130, descriptorIndex := 124, attributes := #[] }, { accessFlags := 25, nameIndex := 136, descriptorIndex := 124, attributes := #[] }])
  fields := #[{ name := "SIOOBE_FORMATTER", type := (.object "java/util/function/BiFunction"), accessFlags := 25, slot := 0, constantValue := 0 }, { name := "AIOOBE_FORMATTER", type := (.object "java/util/function/BiFunction"), accessFlags := 25, slot := 1, constantValue := 0 }, { name := "IOOBE_FORMATTER", type := (.object "java/util/function/BiFunction"), accessFlags := 25, slot := 2, constantValue := 0 }]
  methods := #[k18m0, k18m1]
  instanceTypes := #[]
  staticTypes := #[(.object "java/util/function/BiFunction"), (.object "java/util/function/BiFunction"), (.object "java/util/function/BiFunction")]
  resolved := Array.replicate 194 none
  statics := none }

def pool19 : Array CpInfo := pool [(4, .class_ 6), (1, u "java/lang/Number"), (16, .class_ 25), (1, u "java/math/BigInteger"), (0, u "ZERO"), (0, u "Ljava/math/BigInteger;"), (2, u "mag"), (0, u "[I"), (2, u "signum"), (0, u "I"), (59, u "bitsPerDigit"), (0, u "[J"), (9, u "digitsPerInt"), (12, u "intRadix"), (60, u "SMALL_PRIME_PRODUCT"), (79, u "ONE"), (6, u "TWO"), (43, u "$assertionsDisabled"), (0, u "Z"), (36, u "posConst"), (0, u "[Ljava/math/BigInteger;"), (4, u "negConst"), (116, .class_ 474), (1, u "java/math/BigInteger$RecursiveOp"), (106, u "NEGATIVE_ONE"), (91, u "bnExpModThreshTable"), (72, u "lowestSetBitPlusTwo"), (2, u "bitLengthPlusOne"), (2, u "bitCountPlusOne"), (6, u "LOG_TWO"), (0, u "D"), (2, u "logCache"), (0, u "[D"), (13, u "NUM_ZEROS"), (2, u "ZEROS"), (0, u "Ljava/lang/String;"), (9, u "longRadix"), (5, u "digitsPerLong"), (22, u "powerCache"), (0, u "[[Ljava/math/BigInteger;"), (45, u "firstNonzeroIntNumPlusTwo"), (38, .class_ 909), (1, u "java/math/BigInteger$UnsafeHolder"), (141, u "TEN"), (106, u "serialPersistentFields"), (0, u "[Ljava/io/ObjectStreamField;"), (0, .class_ 1161), (0, u "java/lang/Comparable"), (0, u "LONG_MASK"), (0, u "J"), (1, u "MAX_MAG_LENGTH"), (0, u "PRIME_SEARCH_BIT_LENGTH_LIMIT"), (1, u "KARATSUBA_THRESHOLD"), (1, u "TOOM_COOK_THRESHOLD"), (1, u "KARATSUBA_SQUARE_THRESHOLD"), (1, u "TOOM_COOK_SQUARE_THRESHOLD"), (1, u "BURNIKEL_ZIEGLER_THRESHOLD"), (0, u "BURNIKEL_ZIEGLER_OFFSET"), (1, u "SCHOENHAGE_BASE_CONVERSION_THRESHOLD"), (1, u "MULTIPLY_SQUARE_THRESHOLD"), (0, u "MONTGOMERY_INTRINSIC_THRESHOLD"), (1, u "SMALL_PRIME_THRESHOLD"), (1, u "DEFAULT_PRIME_CERTAINTY"), (1, u "MAX_CONSTANT"), (3, u "serialVersionUID"), (338, .class_ 1532), (0, u "java/math/BigInteger$RecursiveOp$RecursiveSquare"), (0, .class_ 1534), (0, u "java/math/BigInteger$RecursiveOp$RecursiveMultiply")] 7

/-- java/math/BigInteger -/
def k19 : Class := { plain "java/math/BigInteger" (some 14) with
  accessFlags := 33
  interfaces := #[15]
  cf := some (fileOf pool19 23 #[.nestMembers #[907, 472, 1531, 1533]] #[] 33 4 #[1160] #[{ accessFlags := 16, nameIndex := 34, descriptorIndex := 35, attributes := #[] }, { accessFlags := 16, nameIndex := 30, descriptorIndex := 31, attributes := #[] }, { accessFlags := 2, nameIndex := 752, descriptorIndex := 35, attributes := #[] }, { accessFlags := 2, nameIndex := 749, descriptorIndex := 35, attributes := #[] }, { accessFlags := 2, nameIndex := 746, descriptorIndex := 35, attributes := #[] }, { accessFlags := 2, nameIndex := 868, descriptorIndex := 35, attributes := #[] }, { accessFlags := 24, nameIndex := 1162, descriptorIndex := 1163, attributes := #[] }, { accessFlags := 26, nameIndex := 1165, descriptorIndex := 35, attributes := #[] }, { accessFlags := 26, nameIndex := 1166, descriptorIndex := 35, attributes := #[] }, { accessFlags := 26, nameIndex := 1168, descriptorIndex := 35, attributes := #[] }, { accessFlags := 26, nameIndex := 1170, descriptorIndex := 35, attributes := #[] }, { accessFlags := 26, nameIndex := 1172, descriptorIndex := 35, attributes := #[] }, { accessFlags := 26, nameIndex := 1174, descriptorIndex := 35, attributes := #[] }, { accessFlags := 24, nameIndex := 1176, descriptorIndex := 35, attributes := #[] }, { accessFlags := 24, nameIndex := 1177, descriptorIndex := 35, attributes := #[] }, { accessFlags := 26, nameIndex := 1179, descriptorIndex := 35, attributes := #[] }, { accessFlags := 26, nameIndex := 1181, descriptorIndex := 35, attributes := #[] }, { accessFlags := 26, nameIndex := 1182, descriptorIndex := 35, attributes := #[] }, { accessFlags := 10, nameIndex := 95, descriptorIndex := 96, attributes := #[] }, { accessFlags := 26, nameIndex := 1184, descriptorIndex := 35, attributes := #[] }, { accessFlags := 26, nameIndex := 1186, descriptorIndex := 35, attributes := #[] }, { accessFlags := 26, nameIndex := 180, descriptorIndex := 27, attributes := #[] }, { accessFlags := 26, nameIndex := 1188, descriptorIndex := 35, attributes := #[] }, { accessFlags := 26, nameIndex := 349, descriptorIndex := 350, attributes := #[] }, { accessFlags := 26, nameIndex := 355, descriptorIndex := 350, attributes := #[] }, { accessFlags := 74, nameIndex := 821, descriptorIndex := 822, attributes := #[] }, { accessFlags := 26, nameIndex := 763, descriptorIndex := 764, attributes := #[] }, { accessFlags := 26, nameIndex := 759, descriptorIndex := 760, attributes := #[] }, { accessFlags := 25, nameIndex := 26, descriptorIndex := 27, attributes := #[] }, { accessFlags := 25, nameIndex := 260, descriptorIndex := 27, attributes := #[] }, { accessFlags := 25, nameIndex := 267, descriptorIndex := 27, attributes := #[] }, { accessFlags := 26, nameIndex := 581, descriptorIndex := 27, attributes := #[] }, { accessFlags := 25, nameIndex := 1051, descriptorIndex := 27, attributes := #[] }, { accessFlags := 8, nameIndex := 673, descriptorIndex := 31, attributes := #[] }, { accessFlags := 10, nameIndex := 778, descriptorIndex := 35, attributes := #[] }, { accessFlags := 26, nameIndex := 781, descriptorIndex := 782, attributes := #[] }, { accessFlags := 10, nameIndex := 798, descriptorIndex := 31, attributes := #[] }, { accessFlags := 10, nameIndex := 792, descriptorIndex := 350, attributes := #[] }, { accessFlags := 10, nameIndex := 106, descriptorIndex := 31, attributes := #[] }, { accessFlags := 10, nameIndex := 119, descriptorIndex := 31, attributes := #[] }, { accessFlags := 26, nameIndex := 1192, descriptorIndex := 1163, attributes := #[] }, { accessFlags := 26, nameIndex := 1158, descriptorIndex := 1159, attributes := #[] }, { accessFlags := 4120, nameIndex := 311, descriptorIndex := 312, attributes := #[] }])
  fields := #[{ name := "signum", type := .int, accessFlags := 16, slot := 0, constantValue := 0 }, { name := "mag", type := (.array .int), accessFlags := 16, slot := 1, constantValue := 0 }, { name := "bitCountPlusOne", type := .int, accessFlags := 2, slot := 2, constantValue := 0 }, { name := "bitLengthPlusOne", type := .int, accessFlags := 2, slot := 3, constantValue := 0 }, { name := "lowestSetBitPlusTwo", type := .int, accessFlags := 2, slot := 4, constantValue := 0 }, { name := "firstNonzeroIntNumPlusTwo", type := .int, accessFlags := 2, slot := 5, constantValue := 0 }, { name := "LONG_MASK", type := .long, accessFlags := 24, slot := 0, constantValue := 0 }, { name := "MAX_MAG_LENGTH", type := .int, accessFlags := 26, slot := 1, constantValue := 0 }, { name := "PRIME_SEARCH_BIT_LENGTH_LIMIT", type := .int, accessFlags := 26, slot := 2, constantValue := 0 }, { name := "KARATSUBA_THRESHOLD", type := .int, accessFlags := 26, slot := 3, constantValue := 0 }, { name := "TOOM_COOK_THRESHOLD", type := .int, accessFlags := 26, slot := 4, constantValue := 0 }, { name := "KARATSUBA_SQUARE_THRESHOLD", type := .int, accessFlags := 26, slot := 5, constantValue := 0 }, { name := "TOOM_COOK_SQUARE_THRESHOLD", type := .int, accessFlags := 26, slot := 6, constantValue := 0 }, { name := "BURNIKEL_ZIEGLER_THRESHOLD", type := .int, accessFlags := 24, slot := 7, constantValue := 0 }, { name := "BURNIKEL_ZIEGLER_OFFSET", type := .int, accessFlags := 24, slot := 8, constantValue := 0 }, { name := "SCHOENHAGE_BASE_CONVERSION_THRESHOLD", type := .int, accessFlags := 26, slot := 9, constantValue := 0 }, { name := "MULTIPLY_SQUARE_THRESHOLD", type := .int, accessFlags := 26, slot := 10, constantValue := 0 }, { name := "MONTGOMERY_INTRINSIC_THRESHOLD", type := .int, accessFlags := 26, slot := 11, constantValue := 0 }, { name := "bitsPerDigit", type := (.array .long), accessFlags := 10, slot := 12, constantValue := 0 }, { name := "SMALL_PRIME_THRESHOLD", type := .int, accessFlags := 26, slot := 13, constantValue := 0 }, { name := "DEFAULT_PRIME_CERTAINTY", type := .int, accessFlags := 26, slot := 14, constantValue := 0 }, { name := "SMALL_PRIME_PRODUCT", type := (.object "java/math/BigInteger"), accessFlags := 26, slot := 15, constantValue := 0 }, { name := "MAX_CONSTANT", type := .int, accessFlags := 26, slot := 16, constantValue := 0 }, { name := "posConst", type := (.array (.object "java/math/BigInteger")), accessFlags := 26, slot := 17, constantValue := 0 }, { name := "negConst", type := (.array (.object "java/math/BigInteger")), accessFlags := 26, slot := 18, constantValue := 0 }, { name := "powerCache", type := (.array (.array (.object "java/math/BigInteger"))), accessFlags := 74, slot := 19, constantValue := 0 }, { name := "logCache", type := (.array .double), accessFlags := 26, slot := 20, constantValue := 0 }, { name := "LOG_TWO", type := .double, accessFlags := 26, slot := 21, constantValue := 0 }, { name := "ZERO", type := (.object "java/math/BigInteger"), accessFlags := 25, slot := 22, constantValue := 0 }, { name := "ONE", type := (.object "java/math/BigInteger"), accessFlags := 25, slot := 23, constantValue := 0 }, { name := "TWO", type := (.object "java/math/BigInteger"), accessFlags := 25, slot := 24, constantValue := 0 }, { name := "NEGATIVE_ONE", type := (.object "java/math/BigInteger"), accessFlags := 26, slot := 25, constantValue := 0 }, { name := "TEN", type := (.object "java/math/BigInteger"), accessFlags := 25, slot := 26, constantValue := 0 }, { name := "bnExpModThreshTable", type := (.array .int), accessFlags := 8, slot := 27, constantValue := 0 }, { name := "NUM_ZEROS", type := .int, accessFlags := 10, slot := 28, constantValue := 0 }, { name := "ZEROS", type := (.object "java/lang/String"), accessFlags := 26, slot := 29, constantValue := 0 }, { name := "digitsPerLong", type := (.array .int), accessFlags := 10, slot := 30, constantValue := 0 }, { name := "longRadix", type := (.array (.object "java/math/BigInteger")), accessFlags := 10, slot := 31, constantValue := 0 }, { name := "digitsPerInt", type := (.array .int), accessFlags := 10, slot := 32, constantValue := 0 }, { name := "intRadix", type := (.array .int), accessFlags := 10, slot := 33, constantValue := 0 }, { name := "serialVersionUID", type := .long, accessFlags := 26, slot := 34, constantValue := 0 }, { name := "serialPersistentFields", type := (.array (.object "java/io/ObjectStreamField")), accessFlags := 26, slot := 35, constantValue := 0 }, { name := "$assertionsDisabled", type := .boolean, accessFlags := 4120, slot := 36, constantValue := 0 }]
  methods := #[]
  instanceTypes := #[.int, (.array .int), .int, .int, .int, .int]
  staticTypes := #[.long, .int, .int, .int, .int, .int, .int, .int, .int, .int, .int, .int, (.array .long), .int, .int, (.object "java/math/BigInteger"), .int, (.array (.object "java/math/BigInteger")), (.array (.object "java/math/BigInteger")), (.array (.array (.object "java/math/BigInteger"))), (.array .double), .double, (.object "java/math/BigInteger"), (.object "java/math/BigInteger"), (.object "java/math/BigInteger"), (.object "java/math/BigInteger"), (.object "java/math/BigInteger"), (.array .int), .int, (.object "java/lang/String"), (.array .int), (.array (.object "java/math/BigInteger")), (.array .int), (.array .int), .long, (.array (.object "java/io/ObjectStreamField")), .boolean]
  resolved := Array.replicate 1542 none
  statics := some 2 }

/-- the primitive byte -/
def k20 : Class := { plain "byte" none with kind := .primitive 'B', accessFlags := 0x411 }
/-- [B -/
def k21 : Class := { plain "[B" (some 0) with kind := .array 20 .byte, interfaces := #[3, 12], accessFlags := 1041 }

/-- the primitive int -/
def k22 : Class := { plain "int" none with kind := .primitive 'I', accessFlags := 0x411 }
/-- [I -/
def k23 : Class := { plain "[I" (some 0) with kind := .array 22 .int, interfaces := #[3, 12], accessFlags := 1041 }

/-- the primitive long -/
def k24 : Class := { plain "long" none with kind := .primitive 'J', accessFlags := 0x411 }
/-- [J -/
def k25 : Class := { plain "[J" (some 0) with kind := .array 24 .long, interfaces := #[3, 12], accessFlags := 1041 }

/-- [Ljava/lang/Object; -/
def k26 : Class := { plain "[Ljava/lang/Object;" (some 0) with kind := .array 0 (.object "java/lang/Object"), interfaces := #[3, 12], accessFlags := 1041 }

/-- [Ljava/math/BigDecimal; -/
def k27 : Class := { plain "[Ljava/math/BigDecimal;" (some 0) with kind := .array 16 (.object "java/math/BigDecimal"), interfaces := #[3, 12], accessFlags := 1041 }

def heap : Heap := #[{ cls := 13, slots := #[.long 0, .int 0, .ref 22, .ref 23], vm := .statics 13 },
  { cls := 16, slots := #[.double 0, .int 0, .int 0, .int 0, .int 0, .int 0, .int 0, .long 0, .null, .int 0, .long 0, .null, .ref 3, .long 0, .long 0, .ref 4, .null, .null, .null, .null, .null, .int 0, .int 0, .int 0, .int 0, .int 0, .int 0, .int 0, .int 0, .null, .null, .null, .null, .int 0, .int 0, .null, .long 0, .null, .int 0], vm := .statics 16 },
  { cls := 19, slots := #[.long 0, .int 0, .int 0, .int 0, .int 0, .int 0, .int 0, .int 0, .int 0, .int 0, .int 0, .int 0, .null, .int 0, .int 0, .null, .int 0, .null, .null, .null, .null, .double 0, .ref 20, .null, .null, .null, .null, .null, .int 0, .null, .null, .null, .null, .null, .long 0, .null, .int 0], vm := .statics 19 },
  { cls := 27, slots := #[.ref 4, .ref 5, .ref 6, .ref 7, .ref 8, .ref 9, .ref 10, .ref 11, .ref 12, .ref 13, .ref 14, .ref 15, .ref 16, .ref 17, .ref 18, .ref 19], vm := .none },
  { cls := 16, slots := #[.ref 20, .int 0, .int 0, .null, .long 0], vm := .none },
  { cls := 16, slots := #[.ref 20, .int 1, .int 0, .null, .long 0], vm := .none },
  { cls := 16, slots := #[.ref 20, .int 2, .int 0, .null, .long 0], vm := .none },
  { cls := 16, slots := #[.ref 20, .int 3, .int 0, .null, .long 0], vm := .none },
  { cls := 16, slots := #[.ref 20, .int 4, .int 0, .null, .long 0], vm := .none },
  { cls := 16, slots := #[.ref 20, .int 5, .int 0, .null, .long 0], vm := .none },
  { cls := 16, slots := #[.ref 20, .int 6, .int 0, .null, .long 0], vm := .none },
  { cls := 16, slots := #[.ref 20, .int 7, .int 0, .null, .long 0], vm := .none },
  { cls := 16, slots := #[.ref 20, .int 8, .int 0, .null, .long 0], vm := .none },
  { cls := 16, slots := #[.ref 20, .int 9, .int 0, .null, .long 0], vm := .none },
  { cls := 16, slots := #[.ref 20, .int 10, .int 0, .null, .long 0], vm := .none },
  { cls := 16, slots := #[.ref 20, .int 11, .int 0, .null, .long 0], vm := .none },
  { cls := 16, slots := #[.ref 20, .int 12, .int 0, .null, .long 0], vm := .none },
  { cls := 16, slots := #[.ref 20, .int 13, .int 0, .null, .long 0], vm := .none },
  { cls := 16, slots := #[.ref 20, .int 14, .int 0, .null, .long 0], vm := .none },
  { cls := 16, slots := #[.ref 20, .int 15, .int 0, .null, .long 0], vm := .none },
  { cls := 19, slots := #[.int 0, .ref 21, .int 0, .int 0, .int 0, .int 0], vm := .none },
  { cls := 23, slots := #[], vm := .none },
  { cls := 26, slots := #[], vm := .none },
  { cls := 26, slots := #[], vm := .none }]
def classes : Array Class := #[k0, k1, k2, k3, k4, k5, k6, k7, k8, k9, k10, k11, k12, k13, k14, k15, k16, k17, k18, k19, k20, k21, k22, k23, k24, k25, k26, k27]
def interned : List (Array UInt16 × Addr) := []
def slotsUsed : Nat := 182
def theMethod : MethodId := ⟨1, 1⟩
def args0 : Array Value := #[.long 5, .long 7, .int 2]
def aboutOver (below : List Frame) : State where
  vm := { classes := classes, interned := interned.toArray }
  heap := heap
  slotsUsed := slotsUsed
  threads := #[{ frames := .invoking theMethod args0 :: below }]
def below0 : List Frame := [.native { method := ⟨0, 0⟩, args := #[] }]
def about1 : State := aboutOver below0
def p0 : Program := .bare "" "" ""
def e0 : Env := launch0.env 0 0 0
theorem w_frames : about1.frames = Frame.invoking theMethod args0 :: below0 := rfl
set_option maxRecDepth 65536 in
theorem w_args : argsFit about1.vm theMethod args0 = true := by decide +kernel
set_option maxRecDepth 65536 in
theorem w_heap : heapFits about1 = true := by decide +kernel
set_option maxRecDepth 65536 in
theorem w_runnable : about1.curStatus? = some .runnable := by decide +kernel
set_option maxRecDepth 65536 in
theorem w_alone : about1.alone = true := by decide +kernel
set_option maxRecDepth 65536 in
theorem w_named : about1.methodNamed? x = some theMethod := by decide +kernel
set_option maxRecDepth 65536 in
theorem w_hears : about1.hears theMethod below0 = true := by decide +kernel
set_option maxRecDepth 65536 in
theorem w_ripe : about1.ripe theMethod args0 below0 = true := by decide +kernel
theorem w_running : about1.status = .running := rfl
set_option maxRecDepth 65536 in
theorem w_room : about1.hasRoom e0.platform room_1 = true :=
  launch0.hasRoom_least _ room_1 (by decide +kernel) (by decide +kernel) (by decide +kernel) (by decide +kernel) (by decide +kernel) (by decide +kernel)
theorem allAtoms_all (ts : List Jvm.Cond) (a : Array Jvm.Value) (st : Jvm.State) : (allAtoms ts).before a st = ts.all (fun c => c.before a st) := by
  induction ts with
  | nil => rfl
  | cons c t ih =>
    show (Jvm.Cond.and c (allAtoms t)).before a st = _
    rw [Jvm.Cond.before_and, ih, List.all_cons]
def words1 : List Jvm.Cond := Jvm.Cond.code x code maxLocals ret :: tables_1
/-- a 'code' word, met by the world's own term for the bytes: nothing is compared byte by byte -/
theorem code_word {y : MethodName} {bytes : ByteArray} {mx : Nat} {rt : Option FieldType} {a : Array Value} {s : State} {m : MethodId} {meth : Method} {c : Code} (h1 : s.methodNamed? y = some m) (h2 : s.vm.method? m = some meth) (h3 : meth.code = some c) (h4 : c.code = bytes)
    (h5 : (c.maxLocals == mx && c.exceptionTable.isEmpty && decide (c.maxStack ≤ mostOperands) && decide (meth.sig.returnType = rt) && !meth.locks && decide (parseMethodDescriptor y.desc = some meth.sig)) = true) : (Jvm.Cond.code y bytes mx rt).before a s = true := by
  simp only [Bool.and_eq_true, beq_iff_eq, Bool.not_eq_true', decide_eq_true_eq] at h5
  obtain ⟨⟨⟨⟨⟨g1, g2⟩, g3⟩, g4⟩, g5⟩, g6⟩ := h5
  simp [Cond.before, Cond.holds, Cond.value, h1, h2, h3, h4, g1, g2, g3, g4, g5, g6]
def isCode : Jvm.Cond → Bool
  | .code _ _ _ _ => true
  | _ => false
theorem all_split {L : List Jvm.Cond} {P : Jvm.Cond → Bool} (h1 : L.all (fun c => isCode c || P c) = true) (h2 : ∀ c ∈ L.filter isCode, P c = true) : L.all P = true := by
  refine List.all_eq_true.mpr fun c hc => ?_
  have h := List.all_eq_true.mp h1 c hc
  rcases Bool.eq_false_or_eq_true (isCode c) with hi | hi
  · exact h2 c (List.mem_filter.mpr ⟨hc, hi⟩)
  · simpa [hi] using h
set_option maxRecDepth 65536 in
theorem w_c0 : (Jvm.Cond.code x code maxLocals ret).before args0 about1 = true := code_word (m := ⟨1, 1⟩) (meth := k1m1) (c := k1c1) (by decide +kernel) rfl rfl rfl (by decide +kernel)
set_option maxRecDepth 65536 in
theorem w_c1 : (Jvm.Cond.code ({ cls := "com/example/tranchery/tranchery/Cents", name := "zeros", desc := "(I)Lcom/example/tranchery/tranchery/Cents;" } : Jvm.MethodName) prog_5_method_3_code (1 : Nat) (Option.some (Jvm.ClassFile.FieldType.object "com/example/tranchery/tranchery/Cents"))).before args0 about1 = true := code_word (m := ⟨2, 2⟩) (meth := k2m2) (c := k2c2) (by decide +kernel) rfl rfl rfl (by decide +kernel)
set_option maxRecDepth 65536 in
theorem w_c2 : (Jvm.Cond.code ({ cls := "com/example/tranchery/tranchery/Cents", name := "<init>", desc := "([J)V" } : Jvm.MethodName) prog_5_method_1_code (2 : Nat) (Option.none : Option Jvm.ClassFile.FieldType)).before args0 about1 = true := code_word (m := ⟨2, 0⟩) (meth := k2m0) (c := k2c0) (by decide +kernel) rfl rfl rfl (by decide +kernel)
set_option maxRecDepth 65536 in
theorem w_c3 : (Jvm.Cond.code ({ cls := "java/lang/Object", name := "<init>", desc := "()V" } : Jvm.MethodName) object_method_1_code (1 : Nat) (Option.none : Option Jvm.ClassFile.FieldType)).before args0 about1 = true := code_word (m := ⟨0, 0⟩) (meth := k0m0) (c := k0c0) (by decide +kernel) rfl rfl rfl (by decide +kernel)
set_option maxRecDepth 65536 in
theorem w_c4 : (Jvm.Cond.code ({ cls := "com/example/tranchery/tranchery/Cents", name := "moved", desc := "(IIJ)Lcom/example/tranchery/tranchery/Cents;" } : Jvm.MethodName) prog_5_method_12_code (6 : Nat) (Option.some (Jvm.ClassFile.FieldType.object "com/example/tranchery/tranchery/Cents"))).before args0 about1 = true := code_word (m := ⟨2, 8⟩) (meth := k2m8) (c := k2c8) (by decide +kernel) rfl rfl rfl (by decide +kernel)
set_option maxRecDepth 65536 in
theorem w_c5 : (Jvm.Cond.code ({ cls := "java/lang/Math", name := "subtractExact", desc := "(JJ)J" } : Jvm.MethodName) jdk_29_method_27_code (6 : Nat) (Option.some Jvm.ClassFile.FieldType.long)).before args0 about1 = true := code_word (m := ⟨4, 2⟩) (meth := k4m2) (c := k4c2) (by decide +kernel) rfl rfl rfl (by decide +kernel)
set_option maxRecDepth 65536 in
theorem w_c6 : (Jvm.Cond.code ({ cls := "java/lang/Math", name := "addExact", desc := "(JJ)J" } : Jvm.MethodName) jdk_29_method_25_code (6 : Nat) (Option.some Jvm.ClassFile.FieldType.long)).before args0 about1 = true := code_word (m := ⟨4, 1⟩) (meth := k4m1) (c := k4c1) (by decide +kernel) rfl rfl rfl (by decide +kernel)
set_option maxRecDepth 65536 in
theorem w_c7 : (Jvm.Cond.code ({ cls := "com/example/tranchery/tranchery/Cents", name := "amounts", desc := "()Ljava/util/List;" } : Jvm.MethodName) prog_5_method_8_code (3 : Nat) (Option.some (Jvm.ClassFile.FieldType.object "java/util/List"))).before args0 about1 = true := code_word (m := ⟨2, 7⟩) (meth := k2m7) (c := k2c7) (by decide +kernel) rfl rfl rfl (by decide +kernel)
set_option maxRecDepth 65536 in
theorem w_c8 : (Jvm.Cond.code ({ cls := "java/util/ArrayList", name := "<init>", desc := "(I)V" } : Jvm.MethodName) jdk_38_method_1_code (2 : Nat) (Option.none : Option Jvm.ClassFile.FieldType)).before args0 about1 = true := code_word (m := ⟨13, 0⟩) (meth := k13m0) (c := k13c0) (by decide +kernel) rfl rfl rfl (by decide +kernel)
set_option maxRecDepth 65536 in
theorem w_c9 : (Jvm.Cond.code ({ cls := "java/util/AbstractList", name := "<init>", desc := "()V" } : Jvm.MethodName) jdk_39_method_1_code (1 : Nat) (Option.none : Option Jvm.ClassFile.FieldType)).before args0 about1 = true := code_word (m := ⟨10, 0⟩) (meth := k10m0) (c := k10c0) (by decide +kernel) rfl rfl rfl (by decide +kernel)
set_option maxRecDepth 65536 in
theorem w_c10 : (Jvm.Cond.code ({ cls := "java/util/AbstractCollection", name := "<init>", desc := "()V" } : Jvm.MethodName) jdk_22_method_1_code (1 : Nat) (Option.none : Option Jvm.ClassFile.FieldType)).before args0 about1 = true := code_word (m := ⟨7, 0⟩) (meth := k7m0) (c := k7c0) (by decide +kernel) rfl rfl rfl (by decide +kernel)
set_option maxRecDepth 65536 in
theorem w_c11 : (Jvm.Cond.code ({ cls := "com/example/tranchery/tranchery/Cents", name := "amount", desc := "(I)Ljava/math/BigDecimal;" } : Jvm.MethodName) prog_5_method_7_code (2 : Nat) (Option.some (Jvm.ClassFile.FieldType.object "java/math/BigDecimal"))).before args0 about1 = true := code_word (m := ⟨2, 6⟩) (meth := k2m6) (c := k2c6) (by decide +kernel) rfl rfl rfl (by decide +kernel)
set_option maxRecDepth 65536 in
theorem w_c12 : (Jvm.Cond.code ({ cls := "java/math/BigDecimal", name := "valueOf", desc := "(JI)Ljava/math/BigDecimal;" } : Jvm.MethodName) jdk_17_method_20_code (3 : Nat) (Option.some (Jvm.ClassFile.FieldType.object "java/math/BigDecimal"))).before args0 about1 = true := code_word (m := ⟨16, 1⟩) (meth := k16m1) (c := k16c1) (by decide +kernel) rfl rfl rfl (by decide +kernel)
set_option maxRecDepth 65536 in
theorem w_c13 : (Jvm.Cond.code ({ cls := "java/math/BigDecimal", name := "<init>", desc := "(Ljava/math/BigInteger;JII)V" } : Jvm.MethodName) jdk_17_method_1_code (6 : Nat) (Option.none : Option Jvm.ClassFile.FieldType)).before args0 about1 = true := code_word (m := ⟨16, 0⟩) (meth := k16m0) (c := k16c0) (by decide +kernel) rfl rfl rfl (by decide +kernel)
set_option maxRecDepth 65536 in
theorem w_c14 : (Jvm.Cond.code ({ cls := "java/lang/Number", name := "<init>", desc := "()V" } : Jvm.MethodName) jdk_18_method_1_code (1 : Nat) (Option.none : Option Jvm.ClassFile.FieldType)).before args0 about1 = true := code_word (m := ⟨14, 0⟩) (meth := k14m0) (c := k14c0) (by decide +kernel) rfl rfl rfl (by decide +kernel)
set_option maxRecDepth 65536 in
theorem w_c15 : (Jvm.Cond.code ({ cls := "java/util/ArrayList", name := "add", desc := "(Ljava/lang/Object;)Z" } : Jvm.MethodName) jdk_38_method_25_code (2 : Nat) (Option.some Jvm.ClassFile.FieldType.boolean)).before args0 about1 = true := code_word (m := ⟨13, 6⟩) (meth := k13m6) (c := k13c6) (by decide +kernel) rfl rfl rfl (by decide +kernel)
set_option maxRecDepth 65536 in
theorem w_c16 : (Jvm.Cond.code ({ cls := "java/util/ArrayList", name := "add", desc := "(Ljava/lang/Object;[Ljava/lang/Object;I)V" } : Jvm.MethodName) jdk_38_method_24_code (4 : Nat) (Option.none : Option Jvm.ClassFile.FieldType)).before args0 about1 = true := code_word (m := ⟨13, 5⟩) (meth := k13m5) (c := k13c5) (by decide +kernel) rfl rfl rfl (by decide +kernel)
set_option maxRecDepth 65536 in
theorem w_c17 : (Jvm.Cond.code ({ cls := "java/math/BigDecimal", name := "zeroValueOf", desc := "(I)Ljava/math/BigDecimal;" } : Jvm.MethodName) jdk_17_method_24_code (1 : Nat) (Option.some (Jvm.ClassFile.FieldType.object "java/math/BigDecimal"))).before args0 about1 = true := code_word (m := ⟨16, 2⟩) (meth := k16m2) (c := k16c2) (by decide +kernel) rfl rfl rfl (by decide +kernel)
set_option maxRecDepth 65536 in
theorem w_c18 : (Jvm.Cond.code ({ cls := "com/example/tranchery/tranchery/Cents", name := "of", desc := "(Ljava/util/List;)Lcom/example/tranchery/tranchery/Cents;" } : Jvm.MethodName) prog_5_method_2_code (3 : Nat) (Option.some (Jvm.ClassFile.FieldType.object "com/example/tranchery/tranchery/Cents"))).before args0 about1 = true := code_word (m := ⟨2, 1⟩) (meth := k2m1) (c := k2c1) (by decide +kernel) rfl rfl rfl (by decide +kernel)
set_option maxRecDepth 65536 in
theorem w_c19 : (Jvm.Cond.code ({ cls := "java/util/ArrayList", name := "size", desc := "()I" } : Jvm.MethodName) jdk_38_method_8_code (1 : Nat) (Option.some Jvm.ClassFile.FieldType.int)).before args0 about1 = true := code_word (m := ⟨13, 2⟩) (meth := k13m2) (c := k13c2) (by decide +kernel) rfl rfl rfl (by decide +kernel)
set_option maxRecDepth 65536 in
theorem w_c20 : (Jvm.Cond.code ({ cls := "java/util/ArrayList", name := "get", desc := "(I)Ljava/lang/Object;" } : Jvm.MethodName) jdk_38_method_20_code (2 : Nat) (Option.some (Jvm.ClassFile.FieldType.object "java/lang/Object"))).before args0 about1 = true := code_word (m := ⟨13, 4⟩) (meth := k13m4) (c := k13c4) (by decide +kernel) rfl rfl rfl (by decide +kernel)
set_option maxRecDepth 65536 in
theorem w_c21 : (Jvm.Cond.code ({ cls := "java/util/Objects", name := "checkIndex", desc := "(II)I" } : Jvm.MethodName) jdk_31_method_17_code (2 : Nat) (Option.some Jvm.ClassFile.FieldType.int)).before args0 about1 = true := code_word (m := ⟨17, 1⟩) (meth := k17m1) (c := k17c1) (by decide +kernel) rfl rfl rfl (by decide +kernel)
set_option maxRecDepth 65536 in
theorem w_c22 : (Jvm.Cond.code ({ cls := "jdk/internal/util/Preconditions", name := "checkIndex", desc := "(IILjava/util/function/BiFunction;)I" } : Jvm.MethodName) jdk_41_method_11_code (3 : Nat) (Option.some Jvm.ClassFile.FieldType.int)).before args0 about1 = true := code_word (m := ⟨18, 1⟩) (meth := k18m1) (c := k18c1) (by decide +kernel) rfl rfl rfl (by decide +kernel)
set_option maxRecDepth 65536 in
theorem w_c23 : (Jvm.Cond.code ({ cls := "java/util/ArrayList", name := "elementData", desc := "(I)Ljava/lang/Object;" } : Jvm.MethodName) jdk_38_method_18_code (2 : Nat) (Option.some (Jvm.ClassFile.FieldType.object "java/lang/Object"))).before args0 about1 = true := code_word (m := ⟨13, 3⟩) (meth := k13m3) (c := k13c3) (by decide +kernel) rfl rfl rfl (by decide +kernel)
set_option maxRecDepth 65536 in
theorem w_c24 : (Jvm.Cond.code ({ cls := "com/example/tranchery/tranchery/Cents", name := "inCents", desc := "(Ljava/math/BigDecimal;)J" } : Jvm.MethodName) prog_5_method_4_code (1 : Nat) (Option.some Jvm.ClassFile.FieldType.long)).before args0 about1 = true := code_word (m := ⟨2, 3⟩) (meth := k2m3) (c := k2c3) (by decide +kernel) rfl rfl rfl (by decide +kernel)
set_option maxRecDepth 65536 in
theorem w_c25 : (Jvm.Cond.code ({ cls := "java/math/BigDecimal", name := "movePointRight", desc := "(I)Ljava/math/BigDecimal;" } : Jvm.MethodName) jdk_17_method_67_code (4 : Nat) (Option.some (Jvm.ClassFile.FieldType.object "java/math/BigDecimal"))).before args0 about1 = true := code_word (m := ⟨16, 3⟩) (meth := k16m3) (c := k16c3) (by decide +kernel) rfl rfl rfl (by decide +kernel)
set_option maxRecDepth 65536 in
theorem w_c26 : (Jvm.Cond.code ({ cls := "java/math/BigDecimal", name := "checkScale", desc := "(J)I" } : Jvm.MethodName) jdk_17_method_106_code (5 : Nat) (Option.some Jvm.ClassFile.FieldType.int)).before args0 about1 = true := code_word (m := ⟨16, 5⟩) (meth := k16m5) (c := k16c5) (by decide +kernel) rfl rfl rfl (by decide +kernel)
set_option maxRecDepth 65536 in
theorem w_c27 : (Jvm.Cond.code ({ cls := "java/math/BigDecimal", name := "longValueExact", desc := "()J" } : Jvm.MethodName) jdk_17_method_84_code (2 : Nat) (Option.some Jvm.ClassFile.FieldType.long)).before args0 about1 = true := code_word (m := ⟨16, 4⟩) (meth := k16m4) (c := k16c4) (by decide +kernel) rfl rfl rfl (by decide +kernel)
set_option maxRecDepth 65536 in
theorem w_c28 : (Jvm.Cond.code ({ cls := "com/example/tranchery/tranchery/Cents", name := "size", desc := "()I" } : Jvm.MethodName) prog_5_method_5_code (1 : Nat) (Option.some Jvm.ClassFile.FieldType.int)).before args0 about1 = true := code_word (m := ⟨2, 4⟩) (meth := k2m4) (c := k2c4) (by decide +kernel) rfl rfl rfl (by decide +kernel)
set_option maxRecDepth 65536 in
theorem w_c29 : (Jvm.Cond.code ({ cls := "com/example/tranchery/tranchery/Cents", name := "cents", desc := "(I)J" } : Jvm.MethodName) prog_5_method_6_code (2 : Nat) (Option.some Jvm.ClassFile.FieldType.long)).before args0 about1 = true := code_word (m := ⟨2, 5⟩) (meth := k2m5) (c := k2c5) (by decide +kernel) rfl rfl rfl (by decide +kernel)
def codes1 : List Jvm.Cond := [Jvm.Cond.code x code maxLocals ret, Jvm.Cond.code ({ cls := "com/example/tranchery/tranchery/Cents", name := "zeros", desc := "(I)Lcom/example/tranchery/tranchery/Cents;" } : Jvm.MethodName) prog_5_method_3_code (1 : Nat) (Option.some (Jvm.ClassFile.FieldType.object "com/example/tranchery/tranchery/Cents")), Jvm.Cond.code ({ cls := "com/example/tranchery/tranchery/Cents", name := "<init>", desc := "([J)V" } : Jvm.MethodName) prog_5_method_1_code (2 : Nat) (Option.none : Option Jvm.ClassFile.FieldType), Jvm.Cond.code ({ cls := "java/lang/Object", name := "<init>", desc := "()V" } : Jvm.MethodName) object_method_1_code (1 : Nat) (Option.none : Option Jvm.ClassFile.FieldType), Jvm.Cond.code ({ cls := "com/example/tranchery/tranchery/Cents", name := "moved", desc := "(IIJ)Lcom/example/tranchery/tranchery/Cents;" } : Jvm.MethodName) prog_5_method_12_code (6 : Nat) (Option.some (Jvm.ClassFile.FieldType.object "com/example/tranchery/tranchery/Cents")), Jvm.Cond.code ({ cls := "java/lang/Math", name := "subtractExact", desc := "(JJ)J" } : Jvm.MethodName) jdk_29_method_27_code (6 : Nat) (Option.some Jvm.ClassFile.FieldType.long), Jvm.Cond.code ({ cls := "java/lang/Math", name := "addExact", desc := "(JJ)J" } : Jvm.MethodName) jdk_29_method_25_code (6 : Nat) (Option.some Jvm.ClassFile.FieldType.long), Jvm.Cond.code ({ cls := "com/example/tranchery/tranchery/Cents", name := "amounts", desc := "()Ljava/util/List;" } : Jvm.MethodName) prog_5_method_8_code (3 : Nat) (Option.some (Jvm.ClassFile.FieldType.object "java/util/List")), Jvm.Cond.code ({ cls := "java/util/ArrayList", name := "<init>", desc := "(I)V" } : Jvm.MethodName) jdk_38_method_1_code (2 : Nat) (Option.none : Option Jvm.ClassFile.FieldType), Jvm.Cond.code ({ cls := "java/util/AbstractList", name := "<init>", desc := "()V" } : Jvm.MethodName) jdk_39_method_1_code (1 : Nat) (Option.none : Option Jvm.ClassFile.FieldType), Jvm.Cond.code ({ cls := "java/util/AbstractCollection", name := "<init>", desc := "()V" } : Jvm.MethodName) jdk_22_method_1_code (1 : Nat) (Option.none : Option Jvm.ClassFile.FieldType), Jvm.Cond.code ({ cls := "com/example/tranchery/tranchery/Cents", name := "amount", desc := "(I)Ljava/math/BigDecimal;" } : Jvm.MethodName) prog_5_method_7_code (2 : Nat) (Option.some (Jvm.ClassFile.FieldType.object "java/math/BigDecimal")), Jvm.Cond.code ({ cls := "java/math/BigDecimal", name := "valueOf", desc := "(JI)Ljava/math/BigDecimal;" } : Jvm.MethodName) jdk_17_method_20_code (3 : Nat) (Option.some (Jvm.ClassFile.FieldType.object "java/math/BigDecimal")), Jvm.Cond.code ({ cls := "java/math/BigDecimal", name := "<init>", desc := "(Ljava/math/BigInteger;JII)V" } : Jvm.MethodName) jdk_17_method_1_code (6 : Nat) (Option.none : Option Jvm.ClassFile.FieldType), Jvm.Cond.code ({ cls := "java/lang/Number", name := "<init>", desc := "()V" } : Jvm.MethodName) jdk_18_method_1_code (1 : Nat) (Option.none : Option Jvm.ClassFile.FieldType), Jvm.Cond.code ({ cls := "java/util/ArrayList", name := "add", desc := "(Ljava/lang/Object;)Z" } : Jvm.MethodName) jdk_38_method_25_code (2 : Nat) (Option.some Jvm.ClassFile.FieldType.boolean), Jvm.Cond.code ({ cls := "java/util/ArrayList", name := "add", desc := "(Ljava/lang/Object;[Ljava/lang/Object;I)V" } : Jvm.MethodName) jdk_38_method_24_code (4 : Nat) (Option.none : Option Jvm.ClassFile.FieldType), Jvm.Cond.code ({ cls := "java/math/BigDecimal", name := "zeroValueOf", desc := "(I)Ljava/math/BigDecimal;" } : Jvm.MethodName) jdk_17_method_24_code (1 : Nat) (Option.some (Jvm.ClassFile.FieldType.object "java/math/BigDecimal")), Jvm.Cond.code ({ cls := "com/example/tranchery/tranchery/Cents", name := "of", desc := "(Ljava/util/List;)Lcom/example/tranchery/tranchery/Cents;" } : Jvm.MethodName) prog_5_method_2_code (3 : Nat) (Option.some (Jvm.ClassFile.FieldType.object "com/example/tranchery/tranchery/Cents")), Jvm.Cond.code ({ cls := "java/util/ArrayList", name := "size", desc := "()I" } : Jvm.MethodName) jdk_38_method_8_code (1 : Nat) (Option.some Jvm.ClassFile.FieldType.int), Jvm.Cond.code ({ cls := "java/util/ArrayList", name := "get", desc := "(I)Ljava/lang/Object;" } : Jvm.MethodName) jdk_38_method_20_code (2 : Nat) (Option.some (Jvm.ClassFile.FieldType.object "java/lang/Object")), Jvm.Cond.code ({ cls := "java/util/Objects", name := "checkIndex", desc := "(II)I" } : Jvm.MethodName) jdk_31_method_17_code (2 : Nat) (Option.some Jvm.ClassFile.FieldType.int), Jvm.Cond.code ({ cls := "jdk/internal/util/Preconditions", name := "checkIndex", desc := "(IILjava/util/function/BiFunction;)I" } : Jvm.MethodName) jdk_41_method_11_code (3 : Nat) (Option.some Jvm.ClassFile.FieldType.int), Jvm.Cond.code ({ cls := "java/util/ArrayList", name := "elementData", desc := "(I)Ljava/lang/Object;" } : Jvm.MethodName) jdk_38_method_18_code (2 : Nat) (Option.some (Jvm.ClassFile.FieldType.object "java/lang/Object")), Jvm.Cond.code ({ cls := "com/example/tranchery/tranchery/Cents", name := "inCents", desc := "(Ljava/math/BigDecimal;)J" } : Jvm.MethodName) prog_5_method_4_code (1 : Nat) (Option.some Jvm.ClassFile.FieldType.long), Jvm.Cond.code ({ cls := "java/math/BigDecimal", name := "movePointRight", desc := "(I)Ljava/math/BigDecimal;" } : Jvm.MethodName) jdk_17_method_67_code (4 : Nat) (Option.some (Jvm.ClassFile.FieldType.object "java/math/BigDecimal")), Jvm.Cond.code ({ cls := "java/math/BigDecimal", name := "checkScale", desc := "(J)I" } : Jvm.MethodName) jdk_17_method_106_code (5 : Nat) (Option.some Jvm.ClassFile.FieldType.int), Jvm.Cond.code ({ cls := "java/math/BigDecimal", name := "longValueExact", desc := "()J" } : Jvm.MethodName) jdk_17_method_84_code (2 : Nat) (Option.some Jvm.ClassFile.FieldType.long), Jvm.Cond.code ({ cls := "com/example/tranchery/tranchery/Cents", name := "size", desc := "()I" } : Jvm.MethodName) prog_5_method_5_code (1 : Nat) (Option.some Jvm.ClassFile.FieldType.int), Jvm.Cond.code ({ cls := "com/example/tranchery/tranchery/Cents", name := "cents", desc := "(I)J" } : Jvm.MethodName) prog_5_method_6_code (2 : Nat) (Option.some Jvm.ClassFile.FieldType.long)]
set_option maxRecDepth 65536 in
theorem codes_eq : words1.filter isCode = codes1 := rfl
theorem w_codes : ∀ c ∈ words1.filter isCode, c.before args0 about1 = true := by
  rw [codes_eq]
  intro c hc
  simp only [codes1, List.mem_cons, List.not_mem_nil, or_false] at hc
  rcases hc with rfl | rfl | rfl | rfl | rfl | rfl | rfl | rfl | rfl | rfl | rfl | rfl | rfl | rfl | rfl | rfl | rfl | rfl | rfl | rfl | rfl | rfl | rfl | rfl | rfl | rfl | rfl | rfl | rfl | rfl
  · exact w_c0
  · exact w_c1
  · exact w_c2
  · exact w_c3
  · exact w_c4
  · exact w_c5
  · exact w_c6
  · exact w_c7
  · exact w_c8
  · exact w_c9
  · exact w_c10
  · exact w_c11
  · exact w_c12
  · exact w_c13
  · exact w_c14
  · exact w_c15
  · exact w_c16
  · exact w_c17
  · exact w_c18
  · exact w_c19
  · exact w_c20
  · exact w_c21
  · exact w_c22
  · exact w_c23
  · exact w_c24
  · exact w_c25
  · exact w_c26
  · exact w_c27
  · exact w_c28
  · exact w_c29
set_option maxRecDepth 65536 in
theorem w_t1 : (words1.take 24).all (fun c => isCode c || c.before args0 about1) = true := by decide +kernel
set_option maxRecDepth 65536 in
theorem w_t2 : ((words1.drop 24).take 24).all (fun c => isCode c || c.before args0 about1) = true := by decide +kernel
set_option maxRecDepth 65536 in
theorem w_t3 : (((words1.drop 24).drop 24).take 24).all (fun c => isCode c || c.before args0 about1) = true := by decide +kernel
set_option maxRecDepth 65536 in
theorem w_t4 : ((((words1.drop 24).drop 24).drop 24).take 24).all (fun c => isCode c || c.before args0 about1) = true := by decide +kernel
set_option maxRecDepth 65536 in
theorem w_t5 : (((((words1.drop 24).drop 24).drop 24).drop 24).take 24).all (fun c => isCode c || c.before args0 about1) = true := by decide +kernel
set_option maxRecDepth 65536 in
theorem w_t6 : ((((((words1.drop 24).drop 24).drop 24).drop 24).drop 24).take 24).all (fun c => isCode c || c.before args0 about1) = true := by decide +kernel
set_option maxRecDepth 65536 in
theorem w_t7 : (((((((words1.drop 24).drop 24).drop 24).drop 24).drop 24).drop 24).take 24).all (fun c => isCode c || c.before args0 about1) = true := by decide +kernel
set_option maxRecDepth 65536 in
theorem w_t8 : (((((((words1.drop 24).drop 24).drop 24).drop 24).drop 24).drop 24).drop 24).all (fun c => isCode c || c.before args0 about1) = true := by decide +kernel
theorem w_tables : (allAtoms (Jvm.Cond.code x code maxLocals ret :: tables_1)).before args0 about1 = true := by
  rw [allAtoms_all]
  show words1.all (fun c => c.before args0 about1) = true
  refine all_split ?_ w_codes
  rw [← List.take_append_drop 24 words1, List.all_append, w_t1, ← List.take_append_drop 24 (words1.drop 24), List.all_append, w_t2, ← List.take_append_drop 24 ((words1.drop 24).drop 24), List.all_append, w_t3, ← List.take_append_drop 24 (((words1.drop 24).drop 24).drop 24), List.all_append, w_t4, ← List.take_append_drop 24 ((((words1.drop 24).drop 24).drop 24).drop 24), List.all_append, w_t5, ← List.take_append_drop 24 (((((words1.drop 24).drop 24).drop 24).drop 24).drop 24), List.all_append, w_t6, ← List.take_append_drop 24 ((((((words1.drop 24).drop 24).drop 24).drop 24).drop 24).drop 24), List.all_append, w_t7, w_t8]
  rfl
set_option maxRecDepth 65536 in
theorem w_rest : rest_1_c.before args0 about1 = true := by decide +kernel
set_option maxRecDepth 65536 in
theorem w_case : (Jvm.Cond.and given_1 narrow_1).before args0 about1 = true := by decide +kernel
theorem w_applies : (headSpec (Jvm.Cond.code x code maxLocals ret :: tables_1) room_1).applies x e0.platform about1 = true :=
  (Spec.applies_iff w_frames).mpr ⟨w_running, w_runnable, w_alone, w_named, w_hears, w_ripe, w_room, w_tables⟩
theorem atStart : AtStart classFile x code maxLocals ret World_1 tables_1 room_1 Calls_1 rest_1 Pre_1 launch0 p0 e0 about1 theMethod args0 below0 :=
  ⟨lists_1, trivial, launch0.admits_env _ _ _, launch0.least_env, fairChoices_fair.cas, fairChoices_fair.clock, w_frames, w_args, w_heap, w_applies, trivial, w_rest, w_case⟩
end start1
theorem witness_1 : WitnessClaimed_1 := ⟨start1.p0, start1.e0, start1.about1, start1.theMethod, start1.args0, start1.below0, start1.atStart⟩
end Jvm.Pilot.@@N@@
