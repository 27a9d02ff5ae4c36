import JvmDerived
import JvmDerived.Pilot.@@N@@Statement
import JvmDerived.Pilot.@@N@@Code
set_option linter.unusedVariables false
set_option linter.unusedSimpArgs false
namespace Jvm.RoadKit
open Sem ClassFile Op Lib Jvm.Stand Jvm.Free Jvm.LawKit
section New
variable {p : Program} {l : Launch} {e : Env} {R : Room} {s : State} {m : MethodId} {args : Array Value} {below : List Frame} {meth : Method} {c : Code} {T : State} {locs : List Loc} {cells slots : Nat}
theorem retI (X : Stand p l e R s m args below meth c T locs cells slots) (hx : p.tables.exec = Jvm.exec) {pc : Nat} {Ls : Array Slot} {z : Int32} {rest : List Value} (hret : meth.sig.returnType = some .int) (hd : decode c.code pc = .ok (.ireturn, 1)) {fs : List Frame}
    (hl : ∀ (f : JFrame) (acts : List Action), f.method = m → f.locked = none → f.entered = [] → (doReturn e (T.setTop f) acts (some (.int z))).1 = T.setFrames fs) : Steps p.tables e below (T.setTop (mkF m pc Ls (.int z :: rest))) (T.setFrames fs) := by
  have hm' : T.vm.method? m = some meth := X.method'
  have hn : narrow .int (.int z) = .int z := rfl
  show Steps p.tables e below (T.setTop { method := m, pc := pc, locals := Ls, stack := _ :: rest, locked := none }) _
  jvm_step X.here [X.here.top, hx, hd, hm', hret, hn]
  first | (intro acts; rw [hl _ acts rfl rfl rfl]) | rw [hl _ _ rfl rfl rfl]
  exact Steps.refl _
end New
end Jvm.RoadKit
namespace Jvm.Pilot.@@N@@
open Jvm Jvm.ClassFile Sem Op Lib Jvm.Free Jvm.Stand Jvm.LawKit Jvm.RoadKit Bundle Jvm.Pilot.@@N@@.Jvm.D
theorem pd_0 : parseMethodDescriptor "(J)V" = some ⟨[.long], none⟩ := by decide +kernel
theorem pd_1 : parseMethodDescriptor "()V" = some ⟨[], none⟩ := by decide +kernel
theorem pd_2 : parseMethodDescriptor "(Lcom/example/kindgen/kindgen/runtime/RecordShape;J)V" = some ⟨[(.object "com/example/kindgen/kindgen/runtime/RecordShape"), .long], none⟩ := by decide +kernel
theorem pd_3 : parseMethodDescriptor "(I)V" = some ⟨[.int], none⟩ := by decide +kernel
theorem pd_4 : parseMethodDescriptor "(Ljava/lang/Object;)Z" = some ⟨[(.object "java/lang/Object")], some .boolean⟩ := by decide +kernel
theorem pd_5 : parseMethodDescriptor "(Ljava/lang/Object;Ljava/lang/Object;)Ljava/lang/Object;" = some ⟨[(.object "java/lang/Object"), (.object "java/lang/Object")], some (.object "java/lang/Object")⟩ := by decide +kernel
theorem pd_6 : parseMethodDescriptor "(Ljava/lang/Object;)I" = some ⟨[(.object "java/lang/Object")], some .int⟩ := by decide +kernel
theorem pd_7 : parseMethodDescriptor "(ILjava/lang/Object;Ljava/lang/Object;ZZ)Ljava/lang/Object;" = some ⟨[.int, (.object "java/lang/Object"), (.object "java/lang/Object"), .boolean, .boolean], some (.object "java/lang/Object")⟩ := by decide +kernel
theorem pd_8 : parseMethodDescriptor "()[Ljava/util/HashMap$Node;" = some ⟨[], some (.array (.object "java/util/HashMap$Node"))⟩ := by decide +kernel
theorem pd_9 : parseMethodDescriptor "(ILjava/lang/Object;Ljava/lang/Object;Ljava/util/HashMap$Node;)Ljava/util/HashMap$Node;" = some ⟨[.int, (.object "java/lang/Object"), (.object "java/lang/Object"), (.object "java/util/HashMap$Node")], some (.object "java/util/HashMap$Node")⟩ := by decide +kernel
theorem pd_10 : parseMethodDescriptor "(ILjava/lang/Object;Ljava/lang/Object;Ljava/util/HashMap$Node;)V" = some ⟨[.int, (.object "java/lang/Object"), (.object "java/lang/Object"), (.object "java/util/HashMap$Node")], none⟩ := by decide +kernel
theorem pd_11 : parseMethodDescriptor "(Z)V" = some ⟨[.boolean], none⟩ := by decide +kernel
theorem pd_12 : parseMethodDescriptor "(JJ)Z" = some ⟨[.long, .long], some .boolean⟩ := by decide +kernel
theorem pd_13 : parseMethodDescriptor "()[I" = some ⟨[], some (.array .int)⟩ := by decide +kernel
theorem pd_14 : parseMethodDescriptor "([II)[I" = some ⟨[(.array .int), .int], some (.array .int)⟩ := by decide +kernel
theorem pd_15 : parseMethodDescriptor "(II)I" = some ⟨[.int, .int], some .int⟩ := by decide +kernel
theorem pd_16 : parseMethodDescriptor "(Ljava/lang/Object;ILjava/lang/Object;II)V" = some ⟨[(.object "java/lang/Object"), .int, (.object "java/lang/Object"), .int, .int], none⟩ := by decide +kernel
theorem pd_17 : parseMethodDescriptor "(II)Z" = some ⟨[.int, .int], some .boolean⟩ := by decide +kernel
theorem pd_18 : parseMethodDescriptor "(Ljava/util/HashMap$Node;)V" = some ⟨[(.object "java/util/HashMap$Node")], none⟩ := by decide +kernel
theorem d1_0 : decode prog_72_method_2_code 0 = .ok (.aload_n 0, 1) := by decide +kernel
theorem d1_1 : decode prog_72_method_2_code 1 = .ok (.invokespecial 9, 3) := by decide +kernel
theorem d1_4 : decode prog_72_method_2_code 4 = .ok (.aload_n 0, 1) := by decide +kernel
theorem d1_5 : decode prog_72_method_2_code 5 = .ok (.new 14, 3) := by decide +kernel
theorem d1_8 : decode prog_72_method_2_code 8 = .ok (.dup, 1) := by decide +kernel
theorem d1_9 : decode prog_72_method_2_code 9 = .ok (.invokespecial 16, 3) := by decide +kernel
theorem d1_12 : decode prog_72_method_2_code 12 = .ok (.putfield 17, 3) := by decide +kernel
theorem d1_15 : decode prog_72_method_2_code 15 = .ok (.aload_n 0, 1) := by decide +kernel
theorem d1_16 : decode prog_72_method_2_code 16 = .ok (.bipush 8, 2) := by decide +kernel
theorem d1_18 : decode prog_72_method_2_code 18 = .ok (.newarray .int, 2) := by decide +kernel
theorem d1_20 : decode prog_72_method_2_code 20 = .ok (.putfield 21, 3) := by decide +kernel
theorem d1_23 : decode prog_72_method_2_code 23 = .ok (.aload_n 0, 1) := by decide +kernel
theorem d1_24 : decode prog_72_method_2_code 24 = .ok (.bipush 16, 2) := by decide +kernel
theorem d1_26 : decode prog_72_method_2_code 26 = .ok (.anewarray 25, 3) := by decide +kernel
theorem d1_29 : decode prog_72_method_2_code 29 = .ok (.putfield 27, 3) := by decide +kernel
theorem d1_32 : decode prog_72_method_2_code 32 = .ok (.aload_n 0, 1) := by decide +kernel
theorem d1_33 : decode prog_72_method_2_code 33 = .ok (.lload_n 1, 1) := by decide +kernel
theorem d1_34 : decode prog_72_method_2_code 34 = .ok (.putfield 31, 3) := by decide +kernel
theorem d1_37 : decode prog_72_method_2_code 37 = .ok (.return_, 1) := by decide +kernel
theorem pn_1 : plainName "com/example/kindgen/kindgen/core/document/RecordOrder" = true := by first | (simp [plainName, overriddenIn]; done) | decide +kernel
theorem d3_0 : decode jdk_93_method_1_code 0 = .ok (.aload_n 0, 1) := by decide +kernel
theorem d3_1 : decode jdk_93_method_1_code 1 = .ok (.invokespecial 1, 3) := by decide +kernel
theorem d3_4 : decode jdk_93_method_1_code 4 = .ok (.aload_n 0, 1) := by decide +kernel
theorem d3_5 : decode jdk_93_method_1_code 5 = .ok (.new 7, 3) := by decide +kernel
theorem d3_8 : decode jdk_93_method_1_code 8 = .ok (.dup, 1) := by decide +kernel
theorem d3_9 : decode jdk_93_method_1_code 9 = .ok (.invokespecial 9, 3) := by decide +kernel
theorem d3_12 : decode jdk_93_method_1_code 12 = .ok (.putfield 10, 3) := by decide +kernel
theorem d3_15 : decode jdk_93_method_1_code 15 = .ok (.return_, 1) := by decide +kernel
theorem pn_3 : plainName "java/util/HashSet" = true := by first | (simp [plainName, overriddenIn]; done) | decide +kernel
theorem d4_0 : decode jdk_91_method_1_code 0 = .ok (.aload_n 0, 1) := by decide +kernel
theorem d4_1 : decode jdk_91_method_1_code 1 = .ok (.invokespecial 1, 3) := by decide +kernel
theorem d4_4 : decode jdk_91_method_1_code 4 = .ok (.return_, 1) := by decide +kernel
theorem pn_4 : plainName "java/util/AbstractSet" = true := by first | (simp [plainName, overriddenIn]; done) | decide +kernel
theorem d5_0 : decode jdk_22_method_1_code 0 = .ok (.aload_n 0, 1) := by decide +kernel
theorem d5_1 : decode jdk_22_method_1_code 1 = .ok (.invokespecial 1, 3) := by decide +kernel
theorem d5_4 : decode jdk_22_method_1_code 4 = .ok (.return_, 1) := by decide +kernel
theorem pn_5 : plainName "java/util/AbstractCollection" = true := by first | (simp [plainName, overriddenIn]; done) | decide +kernel
theorem d6_0 : decode jdk_69_method_7_code 0 = .ok (.aload_n 0, 1) := by decide +kernel
theorem d6_1 : decode jdk_69_method_7_code 1 = .ok (.invokespecial 43, 3) := by decide +kernel
theorem d6_4 : decode jdk_69_method_7_code 4 = .ok (.aload_n 0, 1) := by decide +kernel
theorem d6_5 : decode jdk_69_method_7_code 5 = .ok (.ldc 92, 2) := by decide +kernel
theorem d6_7 : decode jdk_69_method_7_code 7 = .ok (.putfield 81, 3) := by decide +kernel
theorem d6_10 : decode jdk_69_method_7_code 10 = .ok (.return_, 1) := by decide +kernel
theorem pn_6 : plainName "java/util/HashMap" = true := by first | (simp [plainName, overriddenIn]; done) | decide +kernel
theorem d7_0 : decode jdk_71_method_1_code 0 = .ok (.aload_n 0, 1) := by decide +kernel
theorem d7_1 : decode jdk_71_method_1_code 1 = .ok (.invokespecial 1, 3) := by decide +kernel
theorem d7_4 : decode jdk_71_method_1_code 4 = .ok (.return_, 1) := by decide +kernel
theorem pn_7 : plainName "java/util/AbstractMap" = true := by first | (simp [plainName, overriddenIn]; done) | decide +kernel
theorem d8_0 : decode prog_72_method_4_code 0 = .ok (.aload_n 0, 1) := by decide +kernel
theorem d8_1 : decode prog_72_method_4_code 1 = .ok (.getfield 47, 3) := by decide +kernel
theorem d8_4 : decode prog_72_method_4_code 4 = .ok (.aload_n 0, 1) := by decide +kernel
theorem d8_5 : decode prog_72_method_4_code 5 = .ok (.getfield 27, 3) := by decide +kernel
theorem d8_8 : decode prog_72_method_4_code 8 = .ok (.arraylength, 1) := by decide +kernel
theorem d8_9 : decode prog_72_method_4_code 9 = .ok (.if_icmp .ne 23, 3) := by decide +kernel
theorem d8_32 : decode prog_72_method_4_code 32 = .ok (.aload_n 0, 1) := by decide +kernel
theorem d8_33 : decode prog_72_method_4_code 33 = .ok (.getfield 27, 3) := by decide +kernel
theorem d8_36 : decode prog_72_method_4_code 36 = .ok (.aload_n 0, 1) := by decide +kernel
theorem d8_37 : decode prog_72_method_4_code 37 = .ok (.getfield 47, 3) := by decide +kernel
theorem d8_40 : decode prog_72_method_4_code 40 = .ok (.aaload, 1) := by decide +kernel
theorem d8_41 : decode prog_72_method_4_code 41 = .ok (.ifnonnull 19, 3) := by decide +kernel
theorem d8_44 : decode prog_72_method_4_code 44 = .ok (.aload_n 0, 1) := by decide +kernel
theorem d8_45 : decode prog_72_method_4_code 45 = .ok (.getfield 27, 3) := by decide +kernel
theorem d8_48 : decode prog_72_method_4_code 48 = .ok (.aload_n 0, 1) := by decide +kernel
theorem d8_49 : decode prog_72_method_4_code 49 = .ok (.getfield 47, 3) := by decide +kernel
theorem d8_52 : decode prog_72_method_4_code 52 = .ok (.new 25, 3) := by decide +kernel
theorem d8_55 : decode prog_72_method_4_code 55 = .ok (.dup, 1) := by decide +kernel
theorem d8_56 : decode prog_72_method_4_code 56 = .ok (.invokespecial 57, 3) := by decide +kernel
theorem d8_59 : decode prog_72_method_4_code 59 = .ok (.aastore, 1) := by decide +kernel
theorem d8_60 : decode prog_72_method_4_code 60 = .ok (.aload_n 0, 1) := by decide +kernel
theorem d8_61 : decode prog_72_method_4_code 61 = .ok (.getfield 27, 3) := by decide +kernel
theorem d8_64 : decode prog_72_method_4_code 64 = .ok (.aload_n 0, 1) := by decide +kernel
theorem d8_65 : decode prog_72_method_4_code 65 = .ok (.getfield 47, 3) := by decide +kernel
theorem d8_68 : decode prog_72_method_4_code 68 = .ok (.aaload, 1) := by decide +kernel
theorem d8_69 : decode prog_72_method_4_code 69 = .ok (.astore 4, 2) := by decide +kernel
theorem d8_71 : decode prog_72_method_4_code 71 = .ok (.aload 4, 2) := by decide +kernel
theorem d8_73 : decode prog_72_method_4_code 73 = .ok (.aload_n 0, 1) := by decide +kernel
theorem d8_74 : decode prog_72_method_4_code 74 = .ok (.getfield 35, 3) := by decide +kernel
theorem d8_77 : decode prog_72_method_4_code 77 = .ok (.putfield 58, 3) := by decide +kernel
theorem d8_80 : decode prog_72_method_4_code 80 = .ok (.aload 4, 2) := by decide +kernel
theorem d8_82 : decode prog_72_method_4_code 82 = .ok (.aload_n 1, 1) := by decide +kernel
theorem d8_83 : decode prog_72_method_4_code 83 = .ok (.putfield 61, 3) := by decide +kernel
theorem d8_86 : decode prog_72_method_4_code 86 = .ok (.aload 4, 2) := by decide +kernel
theorem d8_88 : decode prog_72_method_4_code 88 = .ok (.lload_n 2, 1) := by decide +kernel
theorem d8_89 : decode prog_72_method_4_code 89 = .ok (.putfield 65, 3) := by decide +kernel
theorem d8_92 : decode prog_72_method_4_code 92 = .ok (.aload 4, 2) := by decide +kernel
theorem d8_94 : decode prog_72_method_4_code 94 = .ok (.iconst (-1), 1) := by decide +kernel
theorem d8_95 : decode prog_72_method_4_code 95 = .ok (.putfield 68, 3) := by decide +kernel
theorem d8_98 : decode prog_72_method_4_code 98 = .ok (.aload 4, 2) := by decide +kernel
theorem d8_100 : decode prog_72_method_4_code 100 = .ok (.iconst 0, 1) := by decide +kernel
theorem d8_101 : decode prog_72_method_4_code 101 = .ok (.putfield 71, 3) := by decide +kernel
theorem d8_104 : decode prog_72_method_4_code 104 = .ok (.aload 4, 2) := by decide +kernel
theorem d8_106 : decode prog_72_method_4_code 106 = .ok (.iconst 0, 1) := by decide +kernel
theorem d8_107 : decode prog_72_method_4_code 107 = .ok (.putfield 75, 3) := by decide +kernel
theorem d8_110 : decode prog_72_method_4_code 110 = .ok (.aload_n 0, 1) := by decide +kernel
theorem d8_111 : decode prog_72_method_4_code 111 = .ok (.dup, 1) := by decide +kernel
theorem d8_112 : decode prog_72_method_4_code 112 = .ok (.getfield 47, 3) := by decide +kernel
theorem d8_115 : decode prog_72_method_4_code 115 = .ok (.iconst 1, 1) := by decide +kernel
theorem d8_116 : decode prog_72_method_4_code 116 = .ok (.iadd, 1) := by decide +kernel
theorem d8_117 : decode prog_72_method_4_code 117 = .ok (.putfield 47, 3) := by decide +kernel
theorem d8_120 : decode prog_72_method_4_code 120 = .ok (.aload_n 0, 1) := by decide +kernel
theorem d8_121 : decode prog_72_method_4_code 121 = .ok (.dup, 1) := by decide +kernel
theorem d8_122 : decode prog_72_method_4_code 122 = .ok (.getfield 35, 3) := by decide +kernel
theorem d8_125 : decode prog_72_method_4_code 125 = .ok (.iconst 1, 1) := by decide +kernel
theorem d8_126 : decode prog_72_method_4_code 126 = .ok (.iadd, 1) := by decide +kernel
theorem d8_127 : decode prog_72_method_4_code 127 = .ok (.putfield 35, 3) := by decide +kernel
theorem d8_130 : decode prog_72_method_4_code 130 = .ok (.return_, 1) := by decide +kernel
theorem pn_8 : plainName "com/example/kindgen/kindgen/core/document/RecordOrder" = true := by first | (simp [plainName, overriddenIn]; done) | decide +kernel
theorem d9_0 : decode prog_73_method_1_code 0 = .ok (.aload_n 0, 1) := by decide +kernel
theorem d9_1 : decode prog_73_method_1_code 1 = .ok (.invokespecial 1, 3) := by decide +kernel
theorem d9_4 : decode prog_73_method_1_code 4 = .ok (.return_, 1) := by decide +kernel
theorem pn_9 : plainName "com/example/kindgen/kindgen/core/document/RecordOrder$Level" = true := by first | (simp [plainName, overriddenIn]; done) | decide +kernel
theorem d10_0 : decode prog_72_method_5_code 0 = .ok (.aload_n 0, 1) := by decide +kernel
theorem d10_1 : decode prog_72_method_5_code 1 = .ok (.getfield 27, 3) := by decide +kernel
theorem d10_4 : decode prog_72_method_5_code 4 = .ok (.aload_n 0, 1) := by decide +kernel
theorem d10_5 : decode prog_72_method_5_code 5 = .ok (.getfield 47, 3) := by decide +kernel
theorem d10_8 : decode prog_72_method_5_code 8 = .ok (.iconst 1, 1) := by decide +kernel
theorem d10_9 : decode prog_72_method_5_code 9 = .ok (.isub, 1) := by decide +kernel
theorem d10_10 : decode prog_72_method_5_code 10 = .ok (.aaload, 1) := by decide +kernel
theorem d10_11 : decode prog_72_method_5_code 11 = .ok (.astore_n 2, 1) := by decide +kernel
theorem d10_12 : decode prog_72_method_5_code 12 = .ok (.iload_n 1, 1) := by decide +kernel
theorem d10_13 : decode prog_72_method_5_code 13 = .ok (.ifCond .ge 11, 3) := by decide +kernel
theorem d10_16 : decode prog_72_method_5_code 16 = .ok (.aload_n 2, 1) := by decide +kernel
theorem d10_17 : decode prog_72_method_5_code 17 = .ok (.iconst 1, 1) := by decide +kernel
theorem d10_18 : decode prog_72_method_5_code 18 = .ok (.putfield 71, 3) := by decide +kernel
theorem d10_21 : decode prog_72_method_5_code 21 = .ok (.goto 37, 3) := by decide +kernel
theorem d10_24 : decode prog_72_method_5_code 24 = .ok (.aload_n 2, 1) := by decide +kernel
theorem d10_25 : decode prog_72_method_5_code 25 = .ok (.dup, 1) := by decide +kernel
theorem d10_26 : decode prog_72_method_5_code 26 = .ok (.getfield 75, 3) := by decide +kernel
theorem d10_29 : decode prog_72_method_5_code 29 = .ok (.aload_n 2, 1) := by decide +kernel
theorem d10_30 : decode prog_72_method_5_code 30 = .ok (.getfield 71, 3) := by decide +kernel
theorem d10_33 : decode prog_72_method_5_code 33 = .ok (.ifCond .ne 11, 3) := by decide +kernel
theorem d10_36 : decode prog_72_method_5_code 36 = .ok (.iload_n 1, 1) := by decide +kernel
theorem d10_37 : decode prog_72_method_5_code 37 = .ok (.aload_n 2, 1) := by decide +kernel
theorem d10_38 : decode prog_72_method_5_code 38 = .ok (.getfield 68, 3) := by decide +kernel
theorem d10_41 : decode prog_72_method_5_code 41 = .ok (.if_icmp .ge 7, 3) := by decide +kernel
theorem d10_44 : decode prog_72_method_5_code 44 = .ok (.iconst 1, 1) := by decide +kernel
theorem d10_45 : decode prog_72_method_5_code 45 = .ok (.goto 4, 3) := by decide +kernel
theorem d10_48 : decode prog_72_method_5_code 48 = .ok (.iconst 0, 1) := by decide +kernel
theorem d10_49 : decode prog_72_method_5_code 49 = .ok (.ior, 1) := by decide +kernel
theorem d10_50 : decode prog_72_method_5_code 50 = .ok (.putfield 75, 3) := by decide +kernel
theorem d10_53 : decode prog_72_method_5_code 53 = .ok (.aload_n 2, 1) := by decide +kernel
theorem d10_54 : decode prog_72_method_5_code 54 = .ok (.iload_n 1, 1) := by decide +kernel
theorem d10_55 : decode prog_72_method_5_code 55 = .ok (.putfield 68, 3) := by decide +kernel
theorem d10_58 : decode prog_72_method_5_code 58 = .ok (.return_, 1) := by decide +kernel
theorem pn_10 : plainName "com/example/kindgen/kindgen/core/document/RecordOrder" = true := by first | (simp [plainName, overriddenIn]; done) | decide +kernel
theorem d11_0 : decode prog_72_method_6_code 0 = .ok (.aload_n 0, 1) := by decide +kernel
theorem d11_1 : decode prog_72_method_6_code 1 = .ok (.dup, 1) := by decide +kernel
theorem d11_2 : decode prog_72_method_6_code 2 = .ok (.getfield 47, 3) := by decide +kernel
theorem d11_5 : decode prog_72_method_6_code 5 = .ok (.iconst 1, 1) := by decide +kernel
theorem d11_6 : decode prog_72_method_6_code 6 = .ok (.isub, 1) := by decide +kernel
theorem d11_7 : decode prog_72_method_6_code 7 = .ok (.putfield 47, 3) := by decide +kernel
theorem d11_10 : decode prog_72_method_6_code 10 = .ok (.aload_n 0, 1) := by decide +kernel
theorem d11_11 : decode prog_72_method_6_code 11 = .ok (.getfield 27, 3) := by decide +kernel
theorem d11_14 : decode prog_72_method_6_code 14 = .ok (.aload_n 0, 1) := by decide +kernel
theorem d11_15 : decode prog_72_method_6_code 15 = .ok (.getfield 47, 3) := by decide +kernel
theorem d11_18 : decode prog_72_method_6_code 18 = .ok (.aaload, 1) := by decide +kernel
theorem d11_19 : decode prog_72_method_6_code 19 = .ok (.astore_n 3, 1) := by decide +kernel
theorem d11_20 : decode prog_72_method_6_code 20 = .ok (.aload_n 3, 1) := by decide +kernel
theorem d11_21 : decode prog_72_method_6_code 21 = .ok (.getfield 75, 3) := by decide +kernel
theorem d11_24 : decode prog_72_method_6_code 24 = .ok (.ifCond .eq 17, 3) := by decide +kernel
theorem d11_27 : decode prog_72_method_6_code 27 = .ok (.aload_n 0, 1) := by decide +kernel
theorem d11_28 : decode prog_72_method_6_code 28 = .ok (.getfield 17, 3) := by decide +kernel
theorem d11_31 : decode prog_72_method_6_code 31 = .ok (.aload_n 3, 1) := by decide +kernel
theorem d11_32 : decode prog_72_method_6_code 32 = .ok (.getfield 61, 3) := by decide +kernel
theorem d11_35 : decode prog_72_method_6_code 35 = .ok (.invokeinterface 78 2, 5) := by decide +kernel
theorem d11_40 : decode prog_72_method_6_code 40 = .ok (.pop, 1) := by decide +kernel
theorem d11_41 : decode prog_72_method_6_code 41 = .ok (.aload_n 3, 1) := by decide +kernel
theorem d11_42 : decode prog_72_method_6_code 42 = .ok (.getfield 75, 3) := by decide +kernel
theorem d11_45 : decode prog_72_method_6_code 45 = .ok (.ifCond .eq 105, 3) := by decide +kernel
theorem d11_48 : decode prog_72_method_6_code 48 = .ok (.aload_n 0, 1) := by decide +kernel
theorem d11_49 : decode prog_72_method_6_code 49 = .ok (.aload_n 3, 1) := by decide +kernel
theorem d11_50 : decode prog_72_method_6_code 50 = .ok (.getfield 65, 3) := by decide +kernel
theorem d11_53 : decode prog_72_method_6_code 53 = .ok (.lload_n 1, 1) := by decide +kernel
theorem d11_54 : decode prog_72_method_6_code 54 = .ok (.invokevirtual 82, 3) := by decide +kernel
theorem d11_57 : decode prog_72_method_6_code 57 = .ok (.ifCond .eq 93, 3) := by decide +kernel
theorem d11_60 : decode prog_72_method_6_code 60 = .ok (.aload_n 0, 1) := by decide +kernel
theorem d11_61 : decode prog_72_method_6_code 61 = .ok (.getfield 44, 3) := by decide +kernel
theorem d11_64 : decode prog_72_method_6_code 64 = .ok (.ifCond .le 34, 3) := by decide +kernel
theorem d11_67 : decode prog_72_method_6_code 67 = .ok (.aload_n 0, 1) := by decide +kernel
theorem d11_68 : decode prog_72_method_6_code 68 = .ok (.getfield 21, 3) := by decide +kernel
theorem d11_71 : decode prog_72_method_6_code 71 = .ok (.aload_n 0, 1) := by decide +kernel
theorem d11_72 : decode prog_72_method_6_code 72 = .ok (.getfield 44, 3) := by decide +kernel
theorem d11_75 : decode prog_72_method_6_code 75 = .ok (.iconst 1, 1) := by decide +kernel
theorem d11_76 : decode prog_72_method_6_code 76 = .ok (.isub, 1) := by decide +kernel
theorem d11_77 : decode prog_72_method_6_code 77 = .ok (.iaload, 1) := by decide +kernel
theorem d11_78 : decode prog_72_method_6_code 78 = .ok (.aload_n 3, 1) := by decide +kernel
theorem d11_79 : decode prog_72_method_6_code 79 = .ok (.getfield 58, 3) := by decide +kernel
theorem d11_82 : decode prog_72_method_6_code 82 = .ok (.if_icmp .le 16, 3) := by decide +kernel
theorem d11_85 : decode prog_72_method_6_code 85 = .ok (.aload_n 0, 1) := by decide +kernel
theorem d11_86 : decode prog_72_method_6_code 86 = .ok (.dup, 1) := by decide +kernel
theorem d11_87 : decode prog_72_method_6_code 87 = .ok (.getfield 44, 3) := by decide +kernel
theorem d11_90 : decode prog_72_method_6_code 90 = .ok (.iconst 1, 1) := by decide +kernel
theorem d11_91 : decode prog_72_method_6_code 91 = .ok (.isub, 1) := by decide +kernel
theorem d11_92 : decode prog_72_method_6_code 92 = .ok (.putfield 44, 3) := by decide +kernel
theorem d11_95 : decode prog_72_method_6_code 95 = .ok (.goto (-35), 3) := by decide +kernel
theorem d11_98 : decode prog_72_method_6_code 98 = .ok (.aload_n 0, 1) := by decide +kernel
theorem d11_99 : decode prog_72_method_6_code 99 = .ok (.getfield 44, 3) := by decide +kernel
theorem d11_102 : decode prog_72_method_6_code 102 = .ok (.aload_n 0, 1) := by decide +kernel
theorem d11_103 : decode prog_72_method_6_code 103 = .ok (.getfield 21, 3) := by decide +kernel
theorem d11_106 : decode prog_72_method_6_code 106 = .ok (.arraylength, 1) := by decide +kernel
theorem d11_107 : decode prog_72_method_6_code 107 = .ok (.if_icmp .ne 20, 3) := by decide +kernel
theorem d11_127 : decode prog_72_method_6_code 127 = .ok (.aload_n 0, 1) := by decide +kernel
theorem d11_128 : decode prog_72_method_6_code 128 = .ok (.getfield 21, 3) := by decide +kernel
theorem d11_131 : decode prog_72_method_6_code 131 = .ok (.aload_n 0, 1) := by decide +kernel
theorem d11_132 : decode prog_72_method_6_code 132 = .ok (.getfield 44, 3) := by decide +kernel
theorem d11_135 : decode prog_72_method_6_code 135 = .ok (.aload_n 3, 1) := by decide +kernel
theorem d11_136 : decode prog_72_method_6_code 136 = .ok (.getfield 58, 3) := by decide +kernel
theorem d11_139 : decode prog_72_method_6_code 139 = .ok (.iastore, 1) := by decide +kernel
theorem d11_140 : decode prog_72_method_6_code 140 = .ok (.aload_n 0, 1) := by decide +kernel
theorem d11_141 : decode prog_72_method_6_code 141 = .ok (.dup, 1) := by decide +kernel
theorem d11_142 : decode prog_72_method_6_code 142 = .ok (.getfield 44, 3) := by decide +kernel
theorem d11_145 : decode prog_72_method_6_code 145 = .ok (.iconst 1, 1) := by decide +kernel
theorem d11_146 : decode prog_72_method_6_code 146 = .ok (.iadd, 1) := by decide +kernel
theorem d11_147 : decode prog_72_method_6_code 147 = .ok (.putfield 44, 3) := by decide +kernel
theorem d11_150 : decode prog_72_method_6_code 150 = .ok (.return_, 1) := by decide +kernel
theorem pn_11 : plainName "com/example/kindgen/kindgen/core/document/RecordOrder" = true := by first | (simp [plainName, overriddenIn]; done) | decide +kernel
theorem d12_0 : decode jdk_93_method_10_code 0 = .ok (.aload_n 0, 1) := by decide +kernel
theorem d12_1 : decode jdk_93_method_10_code 1 = .ok (.getfield 10, 3) := by decide +kernel
theorem d12_4 : decode jdk_93_method_10_code 4 = .ok (.aload_n 1, 1) := by decide +kernel
theorem d12_5 : decode jdk_93_method_10_code 5 = .ok (.getstatic 64, 3) := by decide +kernel
theorem d12_8 : decode jdk_93_method_10_code 8 = .ok (.invokevirtual 68, 3) := by decide +kernel
theorem d12_11 : decode jdk_93_method_10_code 11 = .ok (.ifnonnull 7, 3) := by decide +kernel
theorem d12_14 : decode jdk_93_method_10_code 14 = .ok (.iconst 1, 1) := by decide +kernel
theorem d12_15 : decode jdk_93_method_10_code 15 = .ok (.goto 4, 3) := by decide +kernel
theorem d12_18 : decode jdk_93_method_10_code 18 = .ok (.iconst 0, 1) := by decide +kernel
theorem d12_19 : decode jdk_93_method_10_code 19 = .ok (.ireturn, 1) := by decide +kernel
theorem pn_12 : plainName "java/util/HashSet" = true := by first | (simp [plainName, overriddenIn]; done) | decide +kernel
theorem d13_0 : decode jdk_69_method_15_code 0 = .ok (.aload_n 0, 1) := by decide +kernel
theorem d13_1 : decode jdk_69_method_15_code 1 = .ok (.aload_n 1, 1) := by decide +kernel
theorem d13_2 : decode jdk_69_method_15_code 2 = .ok (.invokestatic 149, 3) := by decide +kernel
theorem d13_5 : decode jdk_69_method_15_code 5 = .ok (.aload_n 1, 1) := by decide +kernel
theorem d13_6 : decode jdk_69_method_15_code 6 = .ok (.aload_n 2, 1) := by decide +kernel
theorem d13_7 : decode jdk_69_method_15_code 7 = .ok (.iconst 0, 1) := by decide +kernel
theorem d13_8 : decode jdk_69_method_15_code 8 = .ok (.iconst 1, 1) := by decide +kernel
theorem d13_9 : decode jdk_69_method_15_code 9 = .ok (.invokevirtual 152, 3) := by decide +kernel
theorem d13_12 : decode jdk_69_method_15_code 12 = .ok (.areturn, 1) := by decide +kernel
theorem pn_13 : plainName "java/util/HashMap" = true := by first | (simp [plainName, overriddenIn]; done) | decide +kernel
theorem d14_0 : decode jdk_69_method_1_code 0 = .ok (.aload_n 0, 1) := by decide +kernel
theorem d14_1 : decode jdk_69_method_1_code 1 = .ok (.ifnonnull 7, 3) := by decide +kernel
theorem d14_4 : decode jdk_69_method_1_code 4 = .ok (.iconst 0, 1) := by decide +kernel
theorem d14_5 : decode jdk_69_method_1_code 5 = .ok (.goto 14, 3) := by decide +kernel
theorem d14_19 : decode jdk_69_method_1_code 19 = .ok (.ireturn, 1) := by decide +kernel
theorem pn_14 : plainName "java/util/HashMap" = true := by first | (simp [plainName, overriddenIn]; done) | decide +kernel
theorem d15_0 : decode jdk_69_method_16_code 0 = .ok (.aload_n 0, 1) := by decide +kernel
theorem d15_1 : decode jdk_69_method_16_code 1 = .ok (.getfield 105, 3) := by decide +kernel
theorem d15_4 : decode jdk_69_method_16_code 4 = .ok (.dup, 1) := by decide +kernel
theorem d15_5 : decode jdk_69_method_16_code 5 = .ok (.astore 6, 2) := by decide +kernel
theorem d15_7 : decode jdk_69_method_16_code 7 = .ok (.ifnull 12, 3) := by decide +kernel
theorem d15_10 : decode jdk_69_method_16_code 10 = .ok (.aload 6, 2) := by decide +kernel
theorem d15_12 : decode jdk_69_method_16_code 12 = .ok (.arraylength, 1) := by decide +kernel
theorem d15_13 : decode jdk_69_method_16_code 13 = .ok (.dup, 1) := by decide +kernel
theorem d15_14 : decode jdk_69_method_16_code 14 = .ok (.istore 8, 2) := by decide +kernel
theorem d15_16 : decode jdk_69_method_16_code 16 = .ok (.ifCond .ne 13, 3) := by decide +kernel
theorem d15_19 : decode jdk_69_method_16_code 19 = .ok (.aload_n 0, 1) := by decide +kernel
theorem d15_20 : decode jdk_69_method_16_code 20 = .ok (.invokevirtual 117, 3) := by decide +kernel
theorem d15_23 : decode jdk_69_method_16_code 23 = .ok (.dup, 1) := by decide +kernel
theorem d15_24 : decode jdk_69_method_16_code 24 = .ok (.astore 6, 2) := by decide +kernel
theorem d15_26 : decode jdk_69_method_16_code 26 = .ok (.arraylength, 1) := by decide +kernel
theorem d15_27 : decode jdk_69_method_16_code 27 = .ok (.istore 8, 2) := by decide +kernel
theorem d15_29 : decode jdk_69_method_16_code 29 = .ok (.aload 6, 2) := by decide +kernel
theorem d15_31 : decode jdk_69_method_16_code 31 = .ok (.iload 8, 2) := by decide +kernel
theorem d15_33 : decode jdk_69_method_16_code 33 = .ok (.iconst 1, 1) := by decide +kernel
theorem d15_34 : decode jdk_69_method_16_code 34 = .ok (.isub, 1) := by decide +kernel
theorem d15_35 : decode jdk_69_method_16_code 35 = .ok (.iload_n 1, 1) := by decide +kernel
theorem d15_36 : decode jdk_69_method_16_code 36 = .ok (.iand, 1) := by decide +kernel
theorem d15_37 : decode jdk_69_method_16_code 37 = .ok (.dup, 1) := by decide +kernel
theorem d15_38 : decode jdk_69_method_16_code 38 = .ok (.istore 9, 2) := by decide +kernel
theorem d15_40 : decode jdk_69_method_16_code 40 = .ok (.aaload, 1) := by decide +kernel
theorem d15_41 : decode jdk_69_method_16_code 41 = .ok (.dup, 1) := by decide +kernel
theorem d15_42 : decode jdk_69_method_16_code 42 = .ok (.astore 7, 2) := by decide +kernel
theorem d15_44 : decode jdk_69_method_16_code 44 = .ok (.ifnonnull 19, 3) := by decide +kernel
theorem d15_47 : decode jdk_69_method_16_code 47 = .ok (.aload 6, 2) := by decide +kernel
theorem d15_49 : decode jdk_69_method_16_code 49 = .ok (.iload 9, 2) := by decide +kernel
theorem d15_51 : decode jdk_69_method_16_code 51 = .ok (.aload_n 0, 1) := by decide +kernel
theorem d15_52 : decode jdk_69_method_16_code 52 = .ok (.iload_n 1, 1) := by decide +kernel
theorem d15_53 : decode jdk_69_method_16_code 53 = .ok (.aload_n 2, 1) := by decide +kernel
theorem d15_54 : decode jdk_69_method_16_code 54 = .ok (.aload_n 3, 1) := by decide +kernel
theorem d15_55 : decode jdk_69_method_16_code 55 = .ok (.aconst_null, 1) := by decide +kernel
theorem d15_56 : decode jdk_69_method_16_code 56 = .ok (.invokevirtual 186, 3) := by decide +kernel
theorem d15_59 : decode jdk_69_method_16_code 59 = .ok (.aastore, 1) := by decide +kernel
theorem d15_60 : decode jdk_69_method_16_code 60 = .ok (.goto 199, 3) := by decide +kernel
theorem d15_63 : decode jdk_69_method_16_code 63 = .ok (.aload 7, 2) := by decide +kernel
theorem d15_65 : decode jdk_69_method_16_code 65 = .ok (.getfield 168, 3) := by decide +kernel
theorem d15_68 : decode jdk_69_method_16_code 68 = .ok (.iload_n 1, 1) := by decide +kernel
theorem d15_69 : decode jdk_69_method_16_code 69 = .ok (.if_icmp .ne 35, 3) := by decide +kernel
theorem d15_72 : decode jdk_69_method_16_code 72 = .ok (.aload 7, 2) := by decide +kernel
theorem d15_74 : decode jdk_69_method_16_code 74 = .ok (.getfield 170, 3) := by decide +kernel
theorem d15_77 : decode jdk_69_method_16_code 77 = .ok (.dup, 1) := by decide +kernel
theorem d15_78 : decode jdk_69_method_16_code 78 = .ok (.astore 11, 2) := by decide +kernel
theorem d15_80 : decode jdk_69_method_16_code 80 = .ok (.aload_n 2, 1) := by decide +kernel
theorem d15_81 : decode jdk_69_method_16_code 81 = .ok (.if_acmp .eq 16, 3) := by decide +kernel
theorem d15_97 : decode jdk_69_method_16_code 97 = .ok (.aload 7, 2) := by decide +kernel
theorem d15_99 : decode jdk_69_method_16_code 99 = .ok (.astore 10, 2) := by decide +kernel
theorem d15_101 : decode jdk_69_method_16_code 101 = .ok (.goto 121, 3) := by decide +kernel
theorem d15_222 : decode jdk_69_method_16_code 222 = .ok (.aload 10, 2) := by decide +kernel
theorem d15_224 : decode jdk_69_method_16_code 224 = .ok (.ifnull 35, 3) := by decide +kernel
theorem d15_227 : decode jdk_69_method_16_code 227 = .ok (.aload 10, 2) := by decide +kernel
theorem d15_229 : decode jdk_69_method_16_code 229 = .ok (.getfield 162, 3) := by decide +kernel
theorem d15_232 : decode jdk_69_method_16_code 232 = .ok (.astore 12, 2) := by decide +kernel
theorem d15_234 : decode jdk_69_method_16_code 234 = .ok (.iload 4, 2) := by decide +kernel
theorem d15_236 : decode jdk_69_method_16_code 236 = .ok (.ifCond .eq 8, 3) := by decide +kernel
theorem d15_244 : decode jdk_69_method_16_code 244 = .ok (.aload 10, 2) := by decide +kernel
theorem d15_246 : decode jdk_69_method_16_code 246 = .ok (.aload_n 3, 1) := by decide +kernel
theorem d15_247 : decode jdk_69_method_16_code 247 = .ok (.putfield 162, 3) := by decide +kernel
theorem d15_250 : decode jdk_69_method_16_code 250 = .ok (.aload_n 0, 1) := by decide +kernel
theorem d15_251 : decode jdk_69_method_16_code 251 = .ok (.aload 10, 2) := by decide +kernel
theorem d15_253 : decode jdk_69_method_16_code 253 = .ok (.invokevirtual 198, 3) := by decide +kernel
theorem d15_256 : decode jdk_69_method_16_code 256 = .ok (.aload 12, 2) := by decide +kernel
theorem d15_258 : decode jdk_69_method_16_code 258 = .ok (.areturn, 1) := by decide +kernel
theorem d15_259 : decode jdk_69_method_16_code 259 = .ok (.aload_n 0, 1) := by decide +kernel
theorem d15_260 : decode jdk_69_method_16_code 260 = .ok (.dup, 1) := by decide +kernel
theorem d15_261 : decode jdk_69_method_16_code 261 = .ok (.getfield 202, 3) := by decide +kernel
theorem d15_264 : decode jdk_69_method_16_code 264 = .ok (.iconst 1, 1) := by decide +kernel
theorem d15_265 : decode jdk_69_method_16_code 265 = .ok (.iadd, 1) := by decide +kernel
theorem d15_266 : decode jdk_69_method_16_code 266 = .ok (.putfield 202, 3) := by decide +kernel
theorem d15_269 : decode jdk_69_method_16_code 269 = .ok (.aload_n 0, 1) := by decide +kernel
theorem d15_270 : decode jdk_69_method_16_code 270 = .ok (.dup, 1) := by decide +kernel
theorem d15_271 : decode jdk_69_method_16_code 271 = .ok (.getfield 156, 3) := by decide +kernel
theorem d15_274 : decode jdk_69_method_16_code 274 = .ok (.iconst 1, 1) := by decide +kernel
theorem d15_275 : decode jdk_69_method_16_code 275 = .ok (.iadd, 1) := by decide +kernel
theorem d15_276 : decode jdk_69_method_16_code 276 = .ok (.dup_x1, 1) := by decide +kernel
theorem d15_277 : decode jdk_69_method_16_code 277 = .ok (.putfield 156, 3) := by decide +kernel
theorem d15_280 : decode jdk_69_method_16_code 280 = .ok (.aload_n 0, 1) := by decide +kernel
theorem d15_281 : decode jdk_69_method_16_code 281 = .ok (.getfield 88, 3) := by decide +kernel
theorem d15_284 : decode jdk_69_method_16_code 284 = .ok (.if_icmp .le 8, 3) := by decide +kernel
theorem d15_292 : decode jdk_69_method_16_code 292 = .ok (.aload_n 0, 1) := by decide +kernel
theorem d15_293 : decode jdk_69_method_16_code 293 = .ok (.iload 5, 2) := by decide +kernel
theorem d15_295 : decode jdk_69_method_16_code 295 = .ok (.invokevirtual 205, 3) := by decide +kernel
theorem d15_298 : decode jdk_69_method_16_code 298 = .ok (.aconst_null, 1) := by decide +kernel
theorem d15_299 : decode jdk_69_method_16_code 299 = .ok (.areturn, 1) := by decide +kernel
theorem pn_15 : plainName "java/util/HashMap" = true := by first | (simp [plainName, overriddenIn]; done) | decide +kernel
theorem d16_0 : decode jdk_69_method_17_code 0 = .ok (.aload_n 0, 1) := by decide +kernel
theorem d16_1 : decode jdk_69_method_17_code 1 = .ok (.getfield 105, 3) := by decide +kernel
theorem d16_4 : decode jdk_69_method_17_code 4 = .ok (.astore_n 1, 1) := by decide +kernel
theorem d16_5 : decode jdk_69_method_17_code 5 = .ok (.aload_n 1, 1) := by decide +kernel
theorem d16_6 : decode jdk_69_method_17_code 6 = .ok (.ifnonnull 7, 3) := by decide +kernel
theorem d16_9 : decode jdk_69_method_17_code 9 = .ok (.iconst 0, 1) := by decide +kernel
theorem d16_10 : decode jdk_69_method_17_code 10 = .ok (.goto 5, 3) := by decide +kernel
theorem d16_15 : decode jdk_69_method_17_code 15 = .ok (.istore_n 2, 1) := by decide +kernel
theorem d16_16 : decode jdk_69_method_17_code 16 = .ok (.aload_n 0, 1) := by decide +kernel
theorem d16_17 : decode jdk_69_method_17_code 17 = .ok (.getfield 88, 3) := by decide +kernel
theorem d16_20 : decode jdk_69_method_17_code 20 = .ok (.istore_n 3, 1) := by decide +kernel
theorem d16_21 : decode jdk_69_method_17_code 21 = .ok (.iconst 0, 1) := by decide +kernel
theorem d16_22 : decode jdk_69_method_17_code 22 = .ok (.istore 5, 2) := by decide +kernel
theorem d16_24 : decode jdk_69_method_17_code 24 = .ok (.iload_n 2, 1) := by decide +kernel
theorem d16_25 : decode jdk_69_method_17_code 25 = .ok (.ifCond .le 42, 3) := by decide +kernel
theorem d16_67 : decode jdk_69_method_17_code 67 = .ok (.iload_n 3, 1) := by decide +kernel
theorem d16_68 : decode jdk_69_method_17_code 68 = .ok (.ifCond .le 9, 3) := by decide +kernel
theorem d16_77 : decode jdk_69_method_17_code 77 = .ok (.bipush 16, 2) := by decide +kernel
theorem d16_79 : decode jdk_69_method_17_code 79 = .ok (.istore 4, 2) := by decide +kernel
theorem d16_81 : decode jdk_69_method_17_code 81 = .ok (.bipush 12, 2) := by decide +kernel
theorem d16_83 : decode jdk_69_method_17_code 83 = .ok (.istore 5, 2) := by decide +kernel
theorem d16_85 : decode jdk_69_method_17_code 85 = .ok (.iload 5, 2) := by decide +kernel
theorem d16_87 : decode jdk_69_method_17_code 87 = .ok (.ifCond .ne 38, 3) := by decide +kernel
theorem d16_125 : decode jdk_69_method_17_code 125 = .ok (.aload_n 0, 1) := by decide +kernel
theorem d16_126 : decode jdk_69_method_17_code 126 = .ok (.iload 5, 2) := by decide +kernel
theorem d16_128 : decode jdk_69_method_17_code 128 = .ok (.putfield 88, 3) := by decide +kernel
theorem d16_131 : decode jdk_69_method_17_code 131 = .ok (.iload 4, 2) := by decide +kernel
theorem d16_133 : decode jdk_69_method_17_code 133 = .ok (.anewarray 163, 3) := by decide +kernel
theorem d16_136 : decode jdk_69_method_17_code 136 = .ok (.astore 6, 2) := by decide +kernel
theorem d16_138 : decode jdk_69_method_17_code 138 = .ok (.aload_n 0, 1) := by decide +kernel
theorem d16_139 : decode jdk_69_method_17_code 139 = .ok (.aload 6, 2) := by decide +kernel
theorem d16_141 : decode jdk_69_method_17_code 141 = .ok (.putfield 105, 3) := by decide +kernel
theorem d16_144 : decode jdk_69_method_17_code 144 = .ok (.aload_n 1, 1) := by decide +kernel
theorem d16_145 : decode jdk_69_method_17_code 145 = .ok (.ifnull 208, 3) := by decide +kernel
theorem d16_353 : decode jdk_69_method_17_code 353 = .ok (.aload 6, 2) := by decide +kernel
theorem d16_355 : decode jdk_69_method_17_code 355 = .ok (.areturn, 1) := by decide +kernel
theorem pn_16 : plainName "java/util/HashMap" = true := by first | (simp [plainName, overriddenIn]; done) | decide +kernel
theorem d17_0 : decode jdk_69_method_46_code 0 = .ok (.new 163, 3) := by decide +kernel
theorem d17_3 : decode jdk_69_method_46_code 3 = .ok (.dup, 1) := by decide +kernel
theorem d17_4 : decode jdk_69_method_46_code 4 = .ok (.iload_n 1, 1) := by decide +kernel
theorem d17_5 : decode jdk_69_method_46_code 5 = .ok (.aload_n 2, 1) := by decide +kernel
theorem d17_6 : decode jdk_69_method_46_code 6 = .ok (.aload_n 3, 1) := by decide +kernel
theorem d17_7 : decode jdk_69_method_46_code 7 = .ok (.aload 4, 2) := by decide +kernel
theorem d17_9 : decode jdk_69_method_46_code 9 = .ok (.invokespecial 375, 3) := by decide +kernel
theorem d17_12 : decode jdk_69_method_46_code 12 = .ok (.areturn, 1) := by decide +kernel
theorem pn_17 : plainName "java/util/HashMap" = true := by first | (simp [plainName, overriddenIn]; done) | decide +kernel
theorem d18_0 : decode jdk_70_method_1_code 0 = .ok (.aload_n 0, 1) := by decide +kernel
theorem d18_1 : decode jdk_70_method_1_code 1 = .ok (.invokespecial 1, 3) := by decide +kernel
theorem d18_4 : decode jdk_70_method_1_code 4 = .ok (.aload_n 0, 1) := by decide +kernel
theorem d18_5 : decode jdk_70_method_1_code 5 = .ok (.iload_n 1, 1) := by decide +kernel
theorem d18_6 : decode jdk_70_method_1_code 6 = .ok (.putfield 7, 3) := by decide +kernel
theorem d18_9 : decode jdk_70_method_1_code 9 = .ok (.aload_n 0, 1) := by decide +kernel
theorem d18_10 : decode jdk_70_method_1_code 10 = .ok (.aload_n 2, 1) := by decide +kernel
theorem d18_11 : decode jdk_70_method_1_code 11 = .ok (.putfield 13, 3) := by decide +kernel
theorem d18_14 : decode jdk_70_method_1_code 14 = .ok (.aload_n 0, 1) := by decide +kernel
theorem d18_15 : decode jdk_70_method_1_code 15 = .ok (.aload_n 3, 1) := by decide +kernel
theorem d18_16 : decode jdk_70_method_1_code 16 = .ok (.putfield 17, 3) := by decide +kernel
theorem d18_19 : decode jdk_70_method_1_code 19 = .ok (.aload_n 0, 1) := by decide +kernel
theorem d18_20 : decode jdk_70_method_1_code 20 = .ok (.aload 4, 2) := by decide +kernel
theorem d18_22 : decode jdk_70_method_1_code 22 = .ok (.putfield 20, 3) := by decide +kernel
theorem d18_25 : decode jdk_70_method_1_code 25 = .ok (.return_, 1) := by decide +kernel
theorem pn_18 : plainName "java/util/HashMap$Node" = true := by first | (simp [plainName, overriddenIn]; done) | decide +kernel
theorem d19_0 : decode jdk_69_method_52_code 0 = .ok (.return_, 1) := by decide +kernel
theorem pn_19 : plainName "java/util/HashMap" = true := by first | (simp [plainName, overriddenIn]; done) | decide +kernel
theorem d20_0 : decode prog_72_method_7_code 0 = .ok (.lload_n 3, 1) := by decide +kernel
theorem d20_1 : decode prog_72_method_7_code 1 = .ok (.lload_n 1, 1) := by decide +kernel
theorem d20_2 : decode prog_72_method_7_code 2 = .ok (.lsub, 1) := by decide +kernel
theorem d20_3 : decode prog_72_method_7_code 3 = .ok (.aload_n 0, 1) := by decide +kernel
theorem d20_4 : decode prog_72_method_7_code 4 = .ok (.getfield 31, 3) := by decide +kernel
theorem d20_7 : decode prog_72_method_7_code 7 = .ok (.lcmp, 1) := by decide +kernel
theorem d20_8 : decode prog_72_method_7_code 8 = .ok (.ifCond .lt 7, 3) := by decide +kernel
theorem d20_11 : decode prog_72_method_7_code 11 = .ok (.iconst 1, 1) := by decide +kernel
theorem d20_12 : decode prog_72_method_7_code 12 = .ok (.goto 4, 3) := by decide +kernel
theorem d20_16 : decode prog_72_method_7_code 16 = .ok (.ireturn, 1) := by decide +kernel
theorem pn_20 : plainName "com/example/kindgen/kindgen/core/document/RecordOrder" = true := by first | (simp [plainName, overriddenIn]; done) | decide +kernel
theorem d21_0 : decode prog_72_method_9_code 0 = .ok (.aload_n 0, 1) := by decide +kernel
theorem d21_1 : decode prog_72_method_9_code 1 = .ok (.getfield 21, 3) := by decide +kernel
theorem d21_4 : decode prog_72_method_9_code 4 = .ok (.aload_n 0, 1) := by decide +kernel
theorem d21_5 : decode prog_72_method_9_code 5 = .ok (.getfield 44, 3) := by decide +kernel
theorem d21_8 : decode prog_72_method_9_code 8 = .ok (.invokestatic 86, 3) := by decide +kernel
theorem d21_11 : decode prog_72_method_9_code 11 = .ok (.areturn, 1) := by decide +kernel
theorem pn_21 : plainName "com/example/kindgen/kindgen/core/document/RecordOrder" = true := by first | (simp [plainName, overriddenIn]; done) | decide +kernel
theorem d22_0 : decode jdk_65_method_123_code 0 = .ok (.iload_n 1, 1) := by decide +kernel
theorem d22_1 : decode jdk_65_method_123_code 1 = .ok (.aload_n 0, 1) := by decide +kernel
theorem d22_2 : decode jdk_65_method_123_code 2 = .ok (.arraylength, 1) := by decide +kernel
theorem d22_3 : decode jdk_65_method_123_code 3 = .ok (.if_icmp .ne 11, 3) := by decide +kernel
theorem d22_14 : decode jdk_65_method_123_code 14 = .ok (.iload_n 1, 1) := by decide +kernel
theorem d22_15 : decode jdk_65_method_123_code 15 = .ok (.newarray .int, 2) := by decide +kernel
theorem d22_17 : decode jdk_65_method_123_code 17 = .ok (.astore_n 2, 1) := by decide +kernel
theorem d22_18 : decode jdk_65_method_123_code 18 = .ok (.aload_n 0, 1) := by decide +kernel
theorem d22_19 : decode jdk_65_method_123_code 19 = .ok (.iconst 0, 1) := by decide +kernel
theorem d22_20 : decode jdk_65_method_123_code 20 = .ok (.aload_n 2, 1) := by decide +kernel
theorem d22_21 : decode jdk_65_method_123_code 21 = .ok (.iconst 0, 1) := by decide +kernel
theorem d22_22 : decode jdk_65_method_123_code 22 = .ok (.aload_n 0, 1) := by decide +kernel
theorem d22_23 : decode jdk_65_method_123_code 23 = .ok (.arraylength, 1) := by decide +kernel
theorem d22_24 : decode jdk_65_method_123_code 24 = .ok (.iload_n 1, 1) := by decide +kernel
theorem d22_25 : decode jdk_65_method_123_code 25 = .ok (.invokestatic 304, 3) := by decide +kernel
theorem d22_28 : decode jdk_65_method_123_code 28 = .ok (.invokestatic 150, 3) := by decide +kernel
theorem d22_31 : decode jdk_65_method_123_code 31 = .ok (.aload_n 2, 1) := by decide +kernel
theorem d22_32 : decode jdk_65_method_123_code 32 = .ok (.areturn, 1) := by decide +kernel
theorem pn_22 : plainName "java/util/Arrays" = true := by first | (simp [plainName, overriddenIn]; done) | decide +kernel
theorem d24_0 : decode method_2_code 0 = .ok (.iload_n 1, 1) := by decide +kernel
theorem d24_1 : decode method_2_code 1 = .ok (.ifCond .lt 16, 3) := by decide +kernel
theorem d24_4 : decode method_2_code 4 = .ok (.iload_n 0, 1) := by decide +kernel
theorem d24_5 : decode method_2_code 5 = .ok (.ifCond .lt 8, 3) := by decide +kernel
theorem d24_8 : decode method_2_code 8 = .ok (.iload_n 1, 1) := by decide +kernel
theorem d24_9 : decode method_2_code 9 = .ok (.iload_n 0, 1) := by decide +kernel
theorem d24_10 : decode method_2_code 10 = .ok (.if_icmp .ge 7, 3) := by decide +kernel
theorem d24_13 : decode method_2_code 13 = .ok (.iconst 1, 1) := by decide +kernel
theorem d24_14 : decode method_2_code 14 = .ok (.goto 4, 3) := by decide +kernel
theorem d24_17 : decode method_2_code 17 = .ok (.iconst 0, 1) := by decide +kernel
theorem d24_18 : decode method_2_code 18 = .ok (.ireturn, 1) := by decide +kernel
theorem pn_24 : plainName "com/example/kindgen/kindgen/core/document/RecordOrderMemberPinLaw" = true := by first | (simp [plainName, overriddenIn]; done) | decide +kernel
theorem d25_0 : decode jdk_69_method_51_code 0 = .ok (.return_, 1) := by decide +kernel
theorem pn_25 : plainName "java/util/HashMap" = true := by first | (simp [plainName, overriddenIn]; done) | decide +kernel
theorem pn_0 : plainName "com/example/kindgen/kindgen/core/document/RecordOrderMemberPinLaw" = true := by first | (simp [plainName, overriddenIn]; done) | decide +kernel
theorem d23_0 : decode jdk_29_method_69_code 0 = .ok (.iload_n 0, 1) := by decide +kernel
theorem d23_1 : decode jdk_29_method_69_code 1 = .ok (.iload_n 1, 1) := by decide +kernel
theorem d23_2 : decode jdk_29_method_69_code 2 = .ok (.if_icmp .gt 7, 3) := by decide +kernel
theorem d23_5 : decode jdk_29_method_69_code 5 = .ok (.iload_n 0, 1) := by decide +kernel
theorem d23_6 : decode jdk_29_method_69_code 6 = .ok (.goto 4, 3) := by decide +kernel
theorem d23_9 : decode jdk_29_method_69_code 9 = .ok (.iload_n 1, 1) := by decide +kernel
theorem d23_10 : decode jdk_29_method_69_code 10 = .ok (.ireturn, 1) := by decide +kernel
section Refs
variable {p : Program} {l : Launch} {e : Env} {R : Room} {s : State} {m : MethodId} {args : Array Value} {below : List Frame} {meth : Method} {c : Code} {T : State} {locs : List Loc} {cells slots : Nat} {Z : State} {a0 : Array Value} {h : Heap}
/-- a field reference that the sheet says resolved, where the walk stands -/
theorem own_refAt (X : Stand p l e R s m args below meth c T locs cells slots) (hZ : Z.Warmed39 s.vm) {own R0 n d : String} {index : Nat} (hown : s.vm.findClass own = some m.cls) (w : (Jvm.Cond.fieldRef own index R0 n d).before a0 Z = true)
    {cf : ClassId} {k : Class} {i : Nat} {f : Field} (hf : Z.fieldFound? R0 n d = some (cf, k, i, f)) : T.vm.fieldReady m.cls index cf f := by
  have hT : Z.Warmed39 T.vm := wtrans hZ X.warmed
  have w' := Cond.fieldRef_warmed39 hT w
  have ho : (Z.setVm T.vm).vm.findClass own = some m.cls := by
    show T.vm.findClass own = some m.cls
    rw [X.warmed.alike.findClass]; exact hown
  obtain ⟨c', k', i', f', q1, q2⟩ := Cond.fieldRef_spec ho w'
  obtain ⟨k'', q3, -⟩ := State.fieldFound?_setVm (s := Z) hT.alike hf
  cases q1.symm.trans q3
  exact q2
theorem own_getFR (X : Stand p l e R s m args below meth c T locs cells slots) (hx : p.tables.exec = Jvm.exec) (hZ : Z.Warmed39 s.vm) {own R0 n d : String} {index : Nat} (hown : s.vm.findClass own = some m.cls) (w : (Jvm.Cond.fieldRef own index R0 n d).before a0 Z = true)
    (eT : T.heap = h) {a : Addr} {v : Value} (F : Fld Z h a R0 n d v) {g : JFrame} (hg : g.method = m) {rest : List Value} (hs : g.stack = .ref a :: rest) (hd : decode c.code g.pc = .ok (.getfield index, 3)) : ∃ T', Stand p l e R s m args below meth c T' locs cells slots ∧ T'.heap = h ∧ ∀ target, Steps p.tables e below (T'.setTop { g with pc := g.pc + 3, stack := v :: rest }) target → Steps p.tables e below (T.setTop g) target := by
  obtain ⟨cell, cf, k, i, f, h1, h2, h3, h4, -, -, h7⟩ := F
  exact ⟨T, X, eT, fun target hr => (X.getfieldR hx hg (own_refAt X hZ hown w h2) h3 hs (by rw [eT]; exact h1) h4 h7 hd (Steps.refl _)).trans hr⟩
theorem own_fit {C R0 n d : String} {kk : Nat} {ty : FieldType} {a : Addr} {v old : Value} (F : Fld Z h a R0 n d old) (E : Exa Z h a C) (L : (Jvm.Cond.lays C R0 n d).before a0 Z = true) (wi : (Jvm.Cond.instantiable C kk).before a0 Z = true)
    (hty : parseFieldDescriptor d = some ty) (hf : fits ty v = true) : ∃ (cell : Cell) (cf : ClassId) (k : Class) (i : Nat) (f : Field), h[a]? = some cell ∧ Z.fieldFound? R0 n d = some (cf, k, i, f) ∧ f.isStatic = false ∧ hasFlag f.accessFlags Acc.final = false ∧ cell.vm ≠ .unknown ∧ cell.vm.isStatics = false ∧ f.slot < cell.slots.size ∧ f.type = ty ∧ Z.fitsSlot cell.cls cell.vm f.slot v = true := by
  obtain ⟨cell, cf, k, i, f, h1, h2, h3, h4, h5, -, h7⟩ := F
  obtain ⟨cell', kc, e1, e2, e3, -⟩ := E
  cases h1.symm.trans e1
  obtain ⟨c1, k1, cf1, kf1, i1, f1, a1, a2, a3, -, a5, a6⟩ := Cond.lays_spec L
  cases h2.symm.trans a3
  cases e2.symm.trans a1
  obtain ⟨c2, k2, i1, i2, i3, -⟩ := Cond.instantiable_spec wi
  cases e2.symm.trans i1
  cases a2.symm.trans i2
  have ht := (State.fieldFound?_type h2 hty).2
  refine ⟨cell, cf, k, i, f, h1, h2, h3, a5, h4, h5, (Array.getElem?_eq_some_iff.mp h7).1, ht, ?_⟩
  have q : Z.slotType? cell.cls cell.vm f.slot = some ty := by
    unfold State.slotType?
    cases hv : cell.vm <;> simp_all [VmData.isStatics]
  simp [State.fitsSlot, q, hf]
theorem own_putFR (X : Stand p l e R s m args below meth c T locs cells slots) (hx : p.tables.exec = Jvm.exec) (hZ : Z.Warmed39 s.vm) {own R0 n d C : String} {index kk : Nat} {ty : FieldType} (hown : s.vm.findClass own = some m.cls) (w : (Jvm.Cond.fieldRef own index R0 n d).before a0 Z = true)
    (eT : T.heap = h) {a : Addr} {v old : Value} (F : Fld Z h a R0 n d old) (E : Exa Z h a C) (L : (Jvm.Cond.lays C R0 n d).before a0 Z = true) (wi : (Jvm.Cond.instantiable C kk).before a0 Z = true)
    (hty : parseFieldDescriptor d = some ty) (hn : narrow ty v = v) (hf : fits ty v = true) {g : JFrame} (hg : g.method = m) {rest : List Value} (hs : g.stack = v :: .ref a :: rest) (hd : decode c.code g.pc = .ok (.putfield index, 3)) :
    ∃ T' h', Stand p l e R s m args below meth c T' (locs ++ [⟨a, Jvm.RoadKit.slotOf Z R0 n d⟩]) cells slots ∧ T'.heap = h' ∧ Wr h h' a (Jvm.RoadKit.slotOf Z R0 n d) v ∧ ∀ target, Steps p.tables e below (T'.setTop { g with pc := g.pc + 3, stack := rest }) target → Steps p.tables e below (T.setTop g) target := by
  obtain ⟨cell, cf, k, i, f, h1, h2, h3, h4, h5, h6, h7, h8, h9⟩ := own_fit F E L wi hty hf
  have hT : Z.Warmed39 T.vm := wtrans hZ X.warmed
  have es : Jvm.RoadKit.slotOf Z R0 n d = f.slot := by simp [Jvm.RoadKit.slotOf, h2]
  have hfT : T.fitsSlot cell.cls cell.vm f.slot v = true := by rw [← State.fitsSlot_setVm hT.alike] at h9; exact h9
  rw [es]
  obtain ⟨X', st⟩ := X.putfieldReady hx (own_refAt X hZ hown w h2) h3 (Or.inl h4) (by rw [eT]; exact h1) h5 h7 (by rw [h8]; exact hn) hfT hg hs hd
  exact ⟨_, _, X', rfl, ⟨cell, h1, h6, h7, by rw [← eT]; rfl⟩, st⟩
theorem own_specialR (X : Stand p l e R s m args below meth c T locs cells slots) (hx : p.tables.exec = Jvm.exec) (hZ : Z.Warmed39 s.vm) {own : String} {index : Nat} {y : MethodName} (hy1 : y.name = "<init>") (hown : s.vm.findClass own = some m.cls)
    (w : (Jvm.Cond.methodRef own index y).before a0 Z = true) (wi : (Jvm.Cond.instanceMethod y).before a0 Z = true) {bytes : ByteArray} {maxL : Nat} (wc : (Jvm.Cond.code y bytes maxL none).before a0 Z = true) (hy : y.cls ≠ "java/lang/invoke/MethodHandle" ∧ y.cls ≠ "java/lang/invoke/VarHandle")
    {W : Nat} {Pre : Pt → Array Value → Prop} {Post : Pt → Array Value → Option Value → Pt → Prop} (hK : Back l R p e below s args y 3 W Pre Post)
    {g : JFrame} (hg : g.method = m) (hsize : g.locals.size = c.maxLocals) {s₀ : State} (hcome : Steps p.tables e below s₀ (T.setTop g)) {a : Addr} {argsL rest : List Value}
    (hlen : ∀ sig, parseMethodDescriptor y.desc = some sig → argsL.length = sig.parameters.length) (hstack : g.stack = argsL.reverse ++ .ref a :: rest) (hW : 2 * g.monitorRoom + (rest.map fun v => v.category).sum ≤ W)
    (hdg : decode c.code g.pc = .ok (.invokespecial index, 3)) (hpre : ∀ vm₁, s.WarmedH vm₁ → Pre ⟨T.setVm vm₁, locs, cells, slots⟩ (.ref a :: argsL).toArray) :
    ∃ (v : Option Value) (vm₁ : Vm) (B : Pt), s.WarmedH vm₁ ∧ Stand p l e R s m args below meth c B.U B.locs B.cells B.slots ∧ Post ⟨T.setVm vm₁, locs, cells, slots⟩ (.ref a :: argsL).toArray v B ∧
      Steps p.tables e below s₀ (B.U.setTop { g with pc := g.pc + 3, stack := v.toList ++ rest }) := by
  refine Jvm.Free.SCall.of_ready hx hy1 (mvT hZ wi) (mvT hZ wc) (fun U r hU hr => ?_) X hK hg hsize hcome hlen hstack hW hdg hpre
  have hT : Z.Warmed39 U.vm := wtrans hZ hU
  have hrZ : Z.methodNamed? y = some r := (State.methodNamed?_setVm (s := Z) hZ.alike y).symm.trans hr
  have hrU : (Z.setVm U.vm).methodNamed? y = some r := (State.methodNamed?_setVm (s := Z) hT.alike y).trans hrZ
  have w' := Cond.methodRef_warmed39 hT hrZ hy w
  have ho : (Z.setVm U.vm).vm.findClass own = some m.cls := by
    show U.vm.findClass own = some m.cls
    rw [hU.alike.findClass]; exact hown
  obtain ⟨m', c', q1, q2, q3, q4⟩ := Cond.methodRef_named e ho w'
  cases q1.symm.trans (State.methodFound?_of_named hrU hy)
  cases q3.symm.trans (findClass_of_methodNamed hrU)
  exact ⟨q4, q2⟩
end Refs

theorem ef_5 (m : MethodId) (x0 : Addr) : entryFrame m #[(.ref x0)] 1 = mkF m 0 #[.val (.ref x0)] [] := by first | (simp [entryFrame, mkF, argsToLocals, Value.category]; done) | rfl
def Q5 (Z : State) (a1 : Addr) (h0 : Heap) (n0 : Nat) (v : Option Value) (h : Heap) (L : List Loc) : Prop := v = none ∧ Fr n0 L ∧ h = h0
set_option maxRecDepth 65536 in
set_option maxHeartbeats 40000000 in
theorem rm5 (l : Launch) (Z : State) (a0 : Array Value) (hw : ∀ d ∈ tables_1, d.before a0 Z = true) (ws : List Jvm.Cond) (a1 : Addr)  (h0 : Heap) (n0 : Nat) (Z0 : n0 ≤ h0.size)  :
    MetFree l (⟨"java/util/AbstractCollection", "<init>", "()V"⟩ : MethodName) (head1 (Jvm.Cond.code (⟨"java/util/AbstractCollection", "<init>", "()V"⟩ : MethodName) jdk_22_method_1_code 1 none :: ws) ({ frames := 1, cells := 0, slots := 0, locals := 12 } : Room)) (fun a U => a = #[(.ref a1)] ∧ Z.Warmed39 U.vm ∧ U.heap = h0) (fun _ _ _ _ _ => True) (fun _ U o U' => ∃ v L, o = .returned v ∧ Q5 Z a1 h0 n0 v U'.heap L ∧ FrameEnd U o U' L ({ frames := 1, cells := 0, slots := 0, locals := 12 } : Room).cells ({ frames := 1, cells := 0, slots := 0, locals := 12 } : Room).slots) := by
  refine MetFree.of_bodySF (plainFor_of_name pn_5) hisR ?_
  intro p e s m args below meth c s₁ Bd hml0 hP hK
  obtain ⟨rfl, hZ, hh⟩ := hP
  have hx := Bd.exec
  have hby := Bd.bytes
  have hml : c.maxLocals = 1 := hml0
  have hown : s.vm.findClass "java/util/AbstractCollection" = some m.cls := findClass_of_methodNamed Bd.named
  have hnm := (name_of_methodNamed Bd.named Bd.method).1
  have X0 : Stand p l e ({ frames := 1, cells := 0, slots := 0, locals := 12 } : Room) s m #[(.ref a1)] below meth c s₁ [] 0 0 := Stand.of_body Bd
  have e0 : s₁.heap = h0 := by rw [← hh, Bd.state]; rfl
  have N0 := Fr.nil n0
  have pre0 : ∀ t, Steps p.tables e below (s₁.setTop (mkF m 0 #[.val (.ref a1)] [])) t → Steps p.tables e below (s₁.setTop (entryFrame m #[(.ref a1)] 1)) t := fun t k => castTop (ef_5 m a1) k
  obtain ⟨T1, X1, e1, st1⟩ := initO X0 hx hZ hown (hw _ (List.mem_of_getElem? (i := 27) rfl)) (hw _ (List.mem_of_getElem? (i := 7) rfl)) (hw _ (List.mem_of_getElem? (i := 8) rfl)) e0 (g := (mkF m 1 #[.val (.ref a1)] [(.ref a1)])) rfl (by rw [hml]; rfl) rfl (hb hby d5_1) (by decide) (W := 0) (by show 2 * 0 + _ ≤ _; exact Nat.le_of_eq rfl) (by decide)
  obtain ⟨fs, hr, hrun, hended, hW, hsame⟩ := X1.leave (v := none) (fun _ => rfl)
  refine ⟨_, _, pre0 _ ?_, hrun, hended, _, _, rfl, ?_, ⟨_, rfl⟩, hW, hsame.mono (by decide) (by decide)⟩
  · show Steps p.tables e below (s₁.setTop (mkF m 0 #[.val (.ref a1)] [])) _
    refine XS.aloadN X0.here hx rfl (hb hby d5_0) rfl rfl ?_
    show Steps p.tables e below (s₁.setTop (mkF m 1 #[.val (.ref a1)] [(.ref a1)])) _
    refine st1 _ ?_
    show Steps p.tables e below (T1.setTop (mkF m 4 #[.val (.ref a1)] [])) _
    exact X1.returnOut hx Bd.returns (hb hby d5_4) hr
  · show Q5 Z a1 h0 n0 _ T1.heap _
    rw [e1]
    exact ⟨rfl, N0, rfl⟩
theorem ef_4 (m : MethodId) (x0 : Addr) : entryFrame m #[(.ref x0)] 1 = mkF m 0 #[.val (.ref x0)] [] := by first | (simp [entryFrame, mkF, argsToLocals, Value.category]; done) | rfl
def Q4 (Z : State) (a1 : Addr) (h0 : Heap) (n0 : Nat) (v : Option Value) (h : Heap) (L : List Loc) : Prop := v = none ∧ Fr n0 L ∧ h = h0
set_option maxRecDepth 65536 in
set_option maxHeartbeats 40000000 in
theorem rm4 (l : Launch) (Z : State) (a0 : Array Value) (hw : ∀ d ∈ tables_1, d.before a0 Z = true) (ws : List Jvm.Cond) (a1 : Addr)  (h0 : Heap) (n0 : Nat) (Z0 : n0 ≤ h0.size)  :
    MetFree l (⟨"java/util/AbstractSet", "<init>", "()V"⟩ : MethodName) (head1 (Jvm.Cond.code (⟨"java/util/AbstractSet", "<init>", "()V"⟩ : MethodName) jdk_91_method_1_code 1 none :: ws) ({ frames := 2, cells := 0, slots := 0, locals := 24 } : Room)) (fun a U => a = #[(.ref a1)] ∧ Z.Warmed39 U.vm ∧ U.heap = h0) (fun _ _ _ _ _ => True) (fun _ U o U' => ∃ v L, o = .returned v ∧ Q4 Z a1 h0 n0 v U'.heap L ∧ FrameEnd U o U' L ({ frames := 2, cells := 0, slots := 0, locals := 24 } : Room).cells ({ frames := 2, cells := 0, slots := 0, locals := 24 } : Room).slots) := by
  refine MetFree.of_bodySF (plainFor_of_name pn_4) hisR ?_
  intro p e s m args below meth c s₁ Bd hml0 hP hK
  obtain ⟨rfl, hZ, hh⟩ := hP
  have hx := Bd.exec
  have hby := Bd.bytes
  have hml : c.maxLocals = 1 := hml0
  have hown : s.vm.findClass "java/util/AbstractSet" = some m.cls := findClass_of_methodNamed Bd.named
  have X0 : Stand p l e ({ frames := 2, cells := 0, slots := 0, locals := 24 } : Room) s m #[(.ref a1)] below meth c s₁ [] 0 0 := Stand.of_body Bd
  have e0 : s₁.heap = h0 := by rw [← hh, Bd.state]; rfl
  have N0 := Fr.nil n0
  have pre0 : ∀ t, Steps p.tables e below (s₁.setTop (mkF m 0 #[.val (.ref a1)] [])) t → Steps p.tables e below (s₁.setTop (entryFrame m #[(.ref a1)] 1)) t := fun t k => castTop (ef_4 m a1) k
  obtain ⟨_, _, ⟨T1, L1, k1, n1⟩, -, X1, ⟨Lc1, hQ1, l1, y1, z1⟩, st1⟩ := X0.specialBack hx (y := (⟨"java/util/AbstractCollection", "<init>", "()V"⟩ : MethodName)) rfl hown (mvT hZ (hw _ (List.mem_of_getElem? (i := 21) rfl))) (mvT hZ (hw _ (List.mem_of_getElem? (i := 22) rfl))) (mvT hZ (hw _ (List.mem_of_getElem? (i := 26) rfl))) (by decide) (backOf (W := 0) (rm5 l Z a0 hw [] a1 h0 n0 Z0) hZ (hw _ (List.mem_of_getElem? (i := 26) rfl)) (hw _ (List.mem_of_getElem? (i := 25) rfl)) (by decide) (by decide)) (g := (mkF m 1 #[.val (.ref a1)] [(.ref a1)])) rfl (by rw [hml]; rfl) (Steps.refl _) (a := a1) (argsL := []) (rest := []) (lenOf pd_1 rfl) rfl (by show 2 * 0 + _ ≤ _; exact Nat.le_of_eq rfl) (hb hby d4_1) (fun _ _ => ⟨rfl, e0, (by decide : 0 + 0 ≤ _), (by decide : 0 + 0 ≤ _)⟩)
  dsimp only [Pt.U, Pt.locs, Pt.cells, Pt.slots] at X1 l1 y1 z1 st1 hQ1
  subst l1 y1 z1
  obtain ⟨rfl, N1q, e1⟩ := hQ1
  have N1 := Fr.app N0 N1q
  obtain ⟨fs, hr, hrun, hended, hW, hsame⟩ := X1.leave (v := none) (fun _ => rfl)
  refine ⟨_, _, pre0 _ ?_, hrun, hended, _, _, rfl, ?_, ⟨_, rfl⟩, hW, hsame.mono (by decide) (by decide)⟩
  · show Steps p.tables e below (s₁.setTop (mkF m 0 #[.val (.ref a1)] [])) _
    refine XS.aloadN X0.here hx rfl (hb hby d4_0) rfl rfl ?_
    show Steps p.tables e below (s₁.setTop (mkF m 1 #[.val (.ref a1)] [(.ref a1)])) _
    refine st1.trans ?_
    show Steps p.tables e below (T1.setTop (mkF m 4 #[.val (.ref a1)] [])) _
    exact X1.returnOut hx Bd.returns (hb hby d4_4) hr
  · show Q4 Z a1 h0 n0 _ T1.heap _
    rw [e1]
    exact ⟨rfl, N1, rfl⟩
theorem ef_7 (m : MethodId) (x0 : Addr) : entryFrame m #[(.ref x0)] 1 = mkF m 0 #[.val (.ref x0)] [] := by first | (simp [entryFrame, mkF, argsToLocals, Value.category]; done) | rfl
def Q7 (Z : State) (a1 : Addr) (h0 : Heap) (n0 : Nat) (v : Option Value) (h : Heap) (L : List Loc) : Prop := v = none ∧ Fr n0 L ∧ h = h0
set_option maxRecDepth 65536 in
set_option maxHeartbeats 40000000 in
theorem rm7 (l : Launch) (Z : State) (a0 : Array Value) (hw : ∀ d ∈ tables_1, d.before a0 Z = true) (ws : List Jvm.Cond) (a1 : Addr)  (h0 : Heap) (n0 : Nat) (Z0 : n0 ≤ h0.size)  :
    MetFree l (⟨"java/util/AbstractMap", "<init>", "()V"⟩ : MethodName) (head1 (Jvm.Cond.code (⟨"java/util/AbstractMap", "<init>", "()V"⟩ : MethodName) jdk_71_method_1_code 1 none :: ws) ({ frames := 1, cells := 0, slots := 0, locals := 12 } : Room)) (fun a U => a = #[(.ref a1)] ∧ Z.Warmed39 U.vm ∧ U.heap = h0) (fun _ _ _ _ _ => True) (fun _ U o U' => ∃ v L, o = .returned v ∧ Q7 Z a1 h0 n0 v U'.heap L ∧ FrameEnd U o U' L ({ frames := 1, cells := 0, slots := 0, locals := 12 } : Room).cells ({ frames := 1, cells := 0, slots := 0, locals := 12 } : Room).slots) := by
  refine MetFree.of_bodySF (plainFor_of_name pn_7) hisR ?_
  intro p e s m args below meth c s₁ Bd hml0 hP hK
  obtain ⟨rfl, hZ, hh⟩ := hP
  have hx := Bd.exec
  have hby := Bd.bytes
  have hml : c.maxLocals = 1 := hml0
  have hown : s.vm.findClass "java/util/AbstractMap" = some m.cls := findClass_of_methodNamed Bd.named
  have hnm := (name_of_methodNamed Bd.named Bd.method).1
  have X0 : Stand p l e ({ frames := 1, cells := 0, slots := 0, locals := 12 } : Room) s m #[(.ref a1)] below meth c s₁ [] 0 0 := Stand.of_body Bd
  have e0 : s₁.heap = h0 := by rw [← hh, Bd.state]; rfl
  have N0 := Fr.nil n0
  have pre0 : ∀ t, Steps p.tables e below (s₁.setTop (mkF m 0 #[.val (.ref a1)] [])) t → Steps p.tables e below (s₁.setTop (entryFrame m #[(.ref a1)] 1)) t := fun t k => castTop (ef_7 m a1) k
  obtain ⟨T1, X1, e1, st1⟩ := initO X0 hx hZ hown (hw _ (List.mem_of_getElem? (i := 41) rfl)) (hw _ (List.mem_of_getElem? (i := 7) rfl)) (hw _ (List.mem_of_getElem? (i := 8) rfl)) e0 (g := (mkF m 1 #[.val (.ref a1)] [(.ref a1)])) rfl (by rw [hml]; rfl) rfl (hb hby d7_1) (by decide) (W := 0) (by show 2 * 0 + _ ≤ _; exact Nat.le_of_eq rfl) (by decide)
  obtain ⟨fs, hr, hrun, hended, hW, hsame⟩ := X1.leave (v := none) (fun _ => rfl)
  refine ⟨_, _, pre0 _ ?_, hrun, hended, _, _, rfl, ?_, ⟨_, rfl⟩, hW, hsame.mono (by decide) (by decide)⟩
  · show Steps p.tables e below (s₁.setTop (mkF m 0 #[.val (.ref a1)] [])) _
    refine XS.aloadN X0.here hx rfl (hb hby d7_0) rfl rfl ?_
    show Steps p.tables e below (s₁.setTop (mkF m 1 #[.val (.ref a1)] [(.ref a1)])) _
    refine st1 _ ?_
    show Steps p.tables e below (T1.setTop (mkF m 4 #[.val (.ref a1)] [])) _
    exact X1.returnOut hx Bd.returns (hb hby d7_4) hr
  · show Q7 Z a1 h0 n0 _ T1.heap _
    rw [e1]
    exact ⟨rfl, N0, rfl⟩
theorem ef_9 (m : MethodId) (x0 : Addr) : entryFrame m #[(.ref x0)] 1 = mkF m 0 #[.val (.ref x0)] [] := by first | (simp [entryFrame, mkF, argsToLocals, Value.category]; done) | rfl
def Q9 (Z : State) (a1 : Addr) (h0 : Heap) (n0 : Nat) (v : Option Value) (h : Heap) (L : List Loc) : Prop := v = none ∧ Fr n0 L ∧ h = h0
set_option maxRecDepth 65536 in
set_option maxHeartbeats 40000000 in
theorem rm9 (l : Launch) (Z : State) (a0 : Array Value) (hw : ∀ d ∈ tables_1, d.before a0 Z = true) (ws : List Jvm.Cond) (a1 : Addr)  (h0 : Heap) (n0 : Nat) (Z0 : n0 ≤ h0.size)  :
    MetFree l (⟨"com/example/kindgen/kindgen/core/document/RecordOrder$Level", "<init>", "()V"⟩ : MethodName) (head1 (Jvm.Cond.code (⟨"com/example/kindgen/kindgen/core/document/RecordOrder$Level", "<init>", "()V"⟩ : MethodName) prog_73_method_1_code 1 none :: ws) ({ frames := 1, cells := 0, slots := 0, locals := 12 } : Room)) (fun a U => a = #[(.ref a1)] ∧ Z.Warmed39 U.vm ∧ U.heap = h0) (fun _ _ _ _ _ => True) (fun _ U o U' => ∃ v L, o = .returned v ∧ Q9 Z a1 h0 n0 v U'.heap L ∧ FrameEnd U o U' L ({ frames := 1, cells := 0, slots := 0, locals := 12 } : Room).cells ({ frames := 1, cells := 0, slots := 0, locals := 12 } : Room).slots) := by
  refine MetFree.of_bodySF (plainFor_of_name pn_9) hisR ?_
  intro p e s m args below meth c s₁ Bd hml0 hP hK
  obtain ⟨rfl, hZ, hh⟩ := hP
  have hx := Bd.exec
  have hby := Bd.bytes
  have hml : c.maxLocals = 1 := hml0
  have hown : s.vm.findClass "com/example/kindgen/kindgen/core/document/RecordOrder$Level" = some m.cls := findClass_of_methodNamed Bd.named
  have hnm := (name_of_methodNamed Bd.named Bd.method).1
  have X0 : Stand p l e ({ frames := 1, cells := 0, slots := 0, locals := 12 } : Room) s m #[(.ref a1)] below meth c s₁ [] 0 0 := Stand.of_body Bd
  have e0 : s₁.heap = h0 := by rw [← hh, Bd.state]; rfl
  have N0 := Fr.nil n0
  have pre0 : ∀ t, Steps p.tables e below (s₁.setTop (mkF m 0 #[.val (.ref a1)] [])) t → Steps p.tables e below (s₁.setTop (entryFrame m #[(.ref a1)] 1)) t := fun t k => castTop (ef_9 m a1) k
  obtain ⟨T1, X1, e1, st1⟩ := initO X0 hx hZ hown (hw _ (List.mem_of_getElem? (i := 70) rfl)) (hw _ (List.mem_of_getElem? (i := 7) rfl)) (hw _ (List.mem_of_getElem? (i := 8) rfl)) e0 (g := (mkF m 1 #[.val (.ref a1)] [(.ref a1)])) rfl (by rw [hml]; rfl) rfl (hb hby d9_1) (by decide) (W := 0) (by show 2 * 0 + _ ≤ _; exact Nat.le_of_eq rfl) (by decide)
  obtain ⟨fs, hr, hrun, hended, hW, hsame⟩ := X1.leave (v := none) (fun _ => rfl)
  refine ⟨_, _, pre0 _ ?_, hrun, hended, _, _, rfl, ?_, ⟨_, rfl⟩, hW, hsame.mono (by decide) (by decide)⟩
  · show Steps p.tables e below (s₁.setTop (mkF m 0 #[.val (.ref a1)] [])) _
    refine XS.aloadN X0.here hx rfl (hb hby d9_0) rfl rfl ?_
    show Steps p.tables e below (s₁.setTop (mkF m 1 #[.val (.ref a1)] [(.ref a1)])) _
    refine st1 _ ?_
    show Steps p.tables e below (T1.setTop (mkF m 4 #[.val (.ref a1)] [])) _
    exact X1.returnOut hx Bd.returns (hb hby d9_4) hr
  · show Q9 Z a1 h0 n0 _ T1.heap _
    rw [e1]
    exact ⟨rfl, N0, rfl⟩
theorem ef_19 (m : MethodId) (x0 : Addr) (x1 : Int32) : entryFrame m #[(.ref x0), (.int x1)] 2 = mkF m 0 #[.val (.ref x0), .val (.int x1)] [] := by first | (simp [entryFrame, mkF, argsToLocals, Value.category]; done) | rfl
def Q19 (Z : State) (a1 : Addr) (p2 : Int32) (h0 : Heap) (n0 : Nat) (v : Option Value) (h : Heap) (L : List Loc) : Prop := v = none ∧ Fr n0 L ∧ h = h0
set_option maxRecDepth 65536 in
set_option maxHeartbeats 40000000 in
theorem rm19 (l : Launch) (Z : State) (a0 : Array Value) (hw : ∀ d ∈ tables_1, d.before a0 Z = true) (ws : List Jvm.Cond) (a1 : Addr) (p2 : Int32)  (h0 : Heap) (n0 : Nat) (Z0 : n0 ≤ h0.size)  :
    MetFree l (⟨"java/util/HashMap", "afterNodeInsertion", "(Z)V"⟩ : MethodName) (head1 (Jvm.Cond.code (⟨"java/util/HashMap", "afterNodeInsertion", "(Z)V"⟩ : MethodName) jdk_69_method_52_code 2 none :: ws) ({ frames := 0, cells := 0, slots := 0, locals := 0 } : Room)) (fun a U => a = #[(.ref a1), (.int p2)] ∧ Z.Warmed39 U.vm ∧ U.heap = h0) (fun _ _ _ _ _ => True) (fun _ U o U' => ∃ v L, o = .returned v ∧ Q19 Z a1 p2 h0 n0 v U'.heap L ∧ FrameEnd U o U' L ({ frames := 0, cells := 0, slots := 0, locals := 0 } : Room).cells ({ frames := 0, cells := 0, slots := 0, locals := 0 } : Room).slots) := by
  refine MetFree.of_bodySF (plainFor_of_name pn_19) hisR ?_
  intro p e s m args below meth c s₁ Bd hml0 hP hK
  obtain ⟨rfl, hZ, hh⟩ := hP
  have hx := Bd.exec
  have hby := Bd.bytes
  have hml : c.maxLocals = 2 := hml0
  have hown : s.vm.findClass "java/util/HashMap" = some m.cls := findClass_of_methodNamed Bd.named
  have hnm := (name_of_methodNamed Bd.named Bd.method).1
  have X0 : Stand p l e ({ frames := 0, cells := 0, slots := 0, locals := 0 } : Room) s m #[(.ref a1), (.int p2)] below meth c s₁ [] 0 0 := Stand.of_body Bd
  have e0 : s₁.heap = h0 := by rw [← hh, Bd.state]; rfl
  have N0 := Fr.nil n0
  have pre0 : ∀ t, Steps p.tables e below (s₁.setTop (mkF m 0 #[.val (.ref a1), .val (.int p2)] [])) t → Steps p.tables e below (s₁.setTop (entryFrame m #[(.ref a1), (.int p2)] 2)) t := fun t k => castTop (ef_19 m a1 p2) k
  obtain ⟨fs, hr, hrun, hended, hW, hsame⟩ := X0.leave (v := none) (fun _ => rfl)
  refine ⟨_, _, pre0 _ ?_, hrun, hended, _, _, rfl, ?_, ⟨_, rfl⟩, hW, hsame.mono (by decide) (by decide)⟩
  · show Steps p.tables e below (s₁.setTop (mkF m 0 #[.val (.ref a1), .val (.int p2)] [])) _
    exact X0.returnOut hx Bd.returns (hb hby d19_0) hr
  · show Q19 Z a1 p2 h0 n0 _ s₁.heap _
    rw [e0]
    exact ⟨rfl, N0, rfl⟩
theorem ef_25 (m : MethodId) (x0 : Addr) (x1 : Addr) : entryFrame m #[(.ref x0), (.ref x1)] 2 = mkF m 0 #[.val (.ref x0), .val (.ref x1)] [] := by first | (simp [entryFrame, mkF, argsToLocals, Value.category]; done) | rfl
def Q25 (Z : State) (a1 : Addr) (a2 : Addr) (h0 : Heap) (n0 : Nat) (v : Option Value) (h : Heap) (L : List Loc) : Prop := v = none ∧ Fr n0 L ∧ h = h0
set_option maxRecDepth 65536 in
set_option maxHeartbeats 40000000 in
theorem rm25 (l : Launch) (Z : State) (a0 : Array Value) (hw : ∀ d ∈ tables_1, d.before a0 Z = true) (ws : List Jvm.Cond) (a1 : Addr) (a2 : Addr)  (h0 : Heap) (n0 : Nat) (Z0 : n0 ≤ h0.size)  :
    MetFree l (⟨"java/util/HashMap", "afterNodeAccess", "(Ljava/util/HashMap$Node;)V"⟩ : MethodName) (head1 (Jvm.Cond.code (⟨"java/util/HashMap", "afterNodeAccess", "(Ljava/util/HashMap$Node;)V"⟩ : MethodName) jdk_69_method_51_code 2 none :: ws) ({ frames := 0, cells := 0, slots := 0, locals := 0 } : Room)) (fun a U => a = #[(.ref a1), (.ref a2)] ∧ Z.Warmed39 U.vm ∧ U.heap = h0) (fun _ _ _ _ _ => True) (fun _ U o U' => ∃ v L, o = .returned v ∧ Q25 Z a1 a2 h0 n0 v U'.heap L ∧ FrameEnd U o U' L ({ frames := 0, cells := 0, slots := 0, locals := 0 } : Room).cells ({ frames := 0, cells := 0, slots := 0, locals := 0 } : Room).slots) := by
  refine MetFree.of_bodySF (plainFor_of_name pn_25) hisR ?_
  intro p e s m args below meth c s₁ Bd hml0 hP hK
  obtain ⟨rfl, hZ, hh⟩ := hP
  have hx := Bd.exec
  have hby := Bd.bytes
  have hml : c.maxLocals = 2 := hml0
  have hown : s.vm.findClass "java/util/HashMap" = some m.cls := findClass_of_methodNamed Bd.named
  have hnm := (name_of_methodNamed Bd.named Bd.method).1
  have X0 : Stand p l e ({ frames := 0, cells := 0, slots := 0, locals := 0 } : Room) s m #[(.ref a1), (.ref a2)] below meth c s₁ [] 0 0 := Stand.of_body Bd
  have e0 : s₁.heap = h0 := by rw [← hh, Bd.state]; rfl
  have N0 := Fr.nil n0
  have pre0 : ∀ t, Steps p.tables e below (s₁.setTop (mkF m 0 #[.val (.ref a1), .val (.ref a2)] [])) t → Steps p.tables e below (s₁.setTop (entryFrame m #[(.ref a1), (.ref a2)] 2)) t := fun t k => castTop (ef_25 m a1 a2) k
  obtain ⟨fs, hr, hrun, hended, hW, hsame⟩ := X0.leave (v := none) (fun _ => rfl)
  refine ⟨_, _, pre0 _ ?_, hrun, hended, _, _, rfl, ?_, ⟨_, rfl⟩, hW, hsame.mono (by decide) (by decide)⟩
  · show Steps p.tables e below (s₁.setTop (mkF m 0 #[.val (.ref a1), .val (.ref a2)] [])) _
    exact X0.returnOut hx Bd.returns (hb hby d25_0) hr
  · show Q25 Z a1 a2 h0 n0 _ s₁.heap _
    rw [e0]
    exact ⟨rfl, N0, rfl⟩
theorem ef_14n (m : MethodId)  : entryFrame m #[.null] 2 = mkF m 0 #[.val .null, .unset] [] := by first | (simp [entryFrame, mkF, argsToLocals, Value.category]; done) | rfl
def Q14 (Z : State)  (h0 : Heap) (n0 : Nat) (v : Option Value) (h : Heap) (L : List Loc) : Prop := v = some (.int 0) ∧ Fr n0 L ∧ h = h0
set_option maxRecDepth 65536 in
set_option maxHeartbeats 40000000 in
theorem rm14 (l : Launch) (Z : State) (a0 : Array Value) (hw : ∀ d ∈ tables_1, d.before a0 Z = true) (ws : List Jvm.Cond)   (h0 : Heap) (n0 : Nat) (Z0 : n0 ≤ h0.size)  :
    MetFree l (⟨"java/util/HashMap", "hash", "(Ljava/lang/Object;)I"⟩ : MethodName) (head1 (Jvm.Cond.code (⟨"java/util/HashMap", "hash", "(Ljava/lang/Object;)I"⟩ : MethodName) jdk_69_method_1_code 2 (some .int) :: ws) ({ frames := 0, cells := 0, slots := 0, locals := 0 } : Room)) (fun a U => a = #[.null] ∧ Z.Warmed39 U.vm ∧ U.heap = h0) (fun _ _ _ _ _ => True) (fun _ U o U' => ∃ v L, o = .returned v ∧ Q14 Z  h0 n0 v U'.heap L ∧ FrameEnd U o U' L ({ frames := 0, cells := 0, slots := 0, locals := 0 } : Room).cells ({ frames := 0, cells := 0, slots := 0, locals := 0 } : Room).slots) := by
  refine MetFree.of_bodySF (plainFor_of_name pn_14) hisR ?_
  intro p e s m args below meth c s₁ Bd hml0 hP hK
  obtain ⟨rfl, hZ, hh⟩ := hP
  have hx := Bd.exec
  have hby := Bd.bytes
  have hml : c.maxLocals = 2 := hml0
  have hown : s.vm.findClass "java/util/HashMap" = some m.cls := findClass_of_methodNamed Bd.named
  have hnm := (name_of_methodNamed Bd.named Bd.method).1
  have X0 : Stand p l e ({ frames := 0, cells := 0, slots := 0, locals := 0 } : Room) s m #[.null] below meth c s₁ [] 0 0 := Stand.of_body Bd
  have e0 : s₁.heap = h0 := by rw [← hh, Bd.state]; rfl
  have N0 := Fr.nil n0
  have pre0 : ∀ t, Steps p.tables e below (s₁.setTop (mkF m 0 #[.val .null, .unset] [])) t → Steps p.tables e below (s₁.setTop (entryFrame m #[.null] 2)) t := fun t k => castTop (ef_14n m ) k
  obtain ⟨fs, hr, hrun, hended, hW, hsame⟩ := X0.leave (v := some (.int (0 : Int32))) (fun h => by rw [Bd.returns] at h; cases h)
  refine ⟨_, _, pre0 _ ?_, hrun, hended, _, _, rfl, ?_, ⟨_, rfl⟩, hW, hsame.mono (by decide) (by decide)⟩
  · show Steps p.tables e below (s₁.setTop (mkF m 0 #[.val .null, .unset] [])) _
    refine XS.aloadN X0.here hx rfl (hb hby d14_0) rfl rfl ?_
    show Steps p.tables e below (s₁.setTop (mkF m 1 #[.val .null, .unset] [.null])) _
    refine XS.ifnonnullNo X0.here hx rfl (hb hby d14_1) rfl ?_
    refine XS.iconst X0.here hx rfl (hb hby d14_4) ?_
    refine XS.goto X0.here hx rfl (pc0 := 5) (pc' := 19) rfl (hb hby d14_5) (by decide) (by decide) ?_
    show Steps p.tables e below (s₁.setTop (mkF m 19 #[.val .null, .unset] [(.int (0 : Int32))])) _
    exact retI X0 hx Bd.returns (hb hby d14_19) hr
  · show Q14 Z  h0 n0 _ s₁.heap _
    rw [e0]
    exact ⟨rfl, N0, rfl⟩
theorem ef_6 (m : MethodId) (x0 : Addr) : entryFrame m #[(.ref x0)] 1 = mkF m 0 #[.val (.ref x0)] [] := by first | (simp [entryFrame, mkF, argsToLocals, Value.category]; done) | rfl
def Q6 (Z : State) (amap : Addr)  (h0 : Heap) (n0 : Nat) (v : Option Value) (h : Heap) (L : List Loc) : Prop := v = none ∧ Fr n0 L ∧ Keep h0 h [amap] ∧ Exa Z h amap "java/util/HashMap" ∧ Fld Z h amap "java/util/HashMap" "table" "[Ljava/util/HashMap$Node;" .null ∧ Fld Z h amap "java/util/HashMap" "threshold" "I" (.int (0 : Int32)) ∧ Fld Z h amap "java/util/HashMap" "modCount" "I" (.int (0 : Int32)) ∧ Fld Z h amap "java/util/HashMap" "size" "I" (.int (0 : Int32)) ∧ Fld Z h amap "java/util/HashMap" "loadFactor" "F" (.float (1061158912 : UInt32))
set_option maxRecDepth 65536 in
set_option maxHeartbeats 40000000 in
theorem rm6 (l : Launch) (Z : State) (a0 : Array Value) (hw : ∀ d ∈ tables_1, d.before a0 Z = true) (ws : List Jvm.Cond) (amap : Addr)  (h0 : Heap) (n0 : Nat) (Z0 : n0 ≤ h0.size) (E_amap : Exa Z h0 amap "java/util/HashMap") (F_amap_table : Fld Z h0 amap "java/util/HashMap" "table" "[Ljava/util/HashMap$Node;" .null) (F_amap_threshold : Fld Z h0 amap "java/util/HashMap" "threshold" "I" (.int (0 : Int32))) (F_amap_modCount : Fld Z h0 amap "java/util/HashMap" "modCount" "I" (.int (0 : Int32))) (F_amap_size : Fld Z h0 amap "java/util/HashMap" "size" "I" (.int (0 : Int32))) (F_amap_loadFactor : Fld Z h0 amap "java/util/HashMap" "loadFactor" "F" (.float (0 : UInt32))) (g_amap : n0 ≤ amap) :
    MetFree l (⟨"java/util/HashMap", "<init>", "()V"⟩ : MethodName) (head1 (Jvm.Cond.code (⟨"java/util/HashMap", "<init>", "()V"⟩ : MethodName) jdk_69_method_7_code 1 none :: ws) ({ frames := 2, cells := 0, slots := 0, locals := 24 } : Room)) (fun a U => a = #[(.ref amap)] ∧ Z.Warmed39 U.vm ∧ U.heap = h0) (fun _ _ _ _ _ => True) (fun _ U o U' => ∃ v L, o = .returned v ∧ Q6 Z amap h0 n0 v U'.heap L ∧ FrameEnd U o U' L ({ frames := 2, cells := 0, slots := 0, locals := 24 } : Room).cells ({ frames := 2, cells := 0, slots := 0, locals := 24 } : Room).slots) := by
  refine MetFree.of_bodySF (plainFor_of_name pn_6) hisR ?_
  intro p e s m args below meth c s₁ Bd hml0 hP hK
  obtain ⟨rfl, hZ, hh⟩ := hP
  have hx := Bd.exec
  have hby := Bd.bytes
  have hml : c.maxLocals = 1 := hml0
  have hown : s.vm.findClass "java/util/HashMap" = some m.cls := findClass_of_methodNamed Bd.named
  have hnm := (name_of_methodNamed Bd.named Bd.method).1
  have X0 : Stand p l e ({ frames := 2, cells := 0, slots := 0, locals := 24 } : Room) s m #[(.ref amap)] below meth c s₁ [] 0 0 := Stand.of_body Bd
  have e0 : s₁.heap = h0 := by rw [← hh, Bd.state]; rfl
  have N0 := Fr.nil n0
  have pre0 : ∀ t, Steps p.tables e below (s₁.setTop (mkF m 0 #[.val (.ref amap)] [])) t → Steps p.tables e below (s₁.setTop (entryFrame m #[(.ref amap)] 1)) t := fun t k => castTop (ef_6 m amap) k
  have K0 : Keep h0 h0 [amap] := Keep.refl h0 _
  obtain ⟨_, _, ⟨T1, L1, k1, n1⟩, -, X1, ⟨Lc1, hQ1, l1, y1, z1⟩, st1⟩ := X0.specialBack hx (y := (⟨"java/util/AbstractMap", "<init>", "()V"⟩ : MethodName)) rfl hown (mvT hZ (hw _ (List.mem_of_getElem? (i := 35) rfl))) (mvT hZ (hw _ (List.mem_of_getElem? (i := 36) rfl))) (mvT hZ (hw _ (List.mem_of_getElem? (i := 40) rfl))) (by decide) (backOf (W := 0) (rm7 l Z a0 hw [] amap h0 n0 Z0) hZ (hw _ (List.mem_of_getElem? (i := 40) rfl)) (hw _ (List.mem_of_getElem? (i := 39) rfl)) (by decide) (by decide)) (g := (mkF m 1 #[.val (.ref amap)] [(.ref amap)])) rfl (by rw [hml]; rfl) (Steps.refl _) (a := amap) (argsL := []) (rest := []) (lenOf pd_1 rfl) rfl (by show 2 * 0 + _ ≤ _; exact Nat.le_of_eq rfl) (hb hby d6_1) (fun _ _ => ⟨rfl, e0, (by decide : 0 + 0 ≤ _), (by decide : 0 + 0 ≤ _)⟩)
  dsimp only [Pt.U, Pt.locs, Pt.cells, Pt.slots] at X1 l1 y1 z1 st1 hQ1
  subst l1 y1 z1
  obtain ⟨rfl, N1q, e1⟩ := hQ1
  have N1 := Fr.app N0 N1q
  obtain ⟨T2, h2, X2, e2, W2, st2⟩ := putF X1 hx hZ hown (host := "") (Or.inl (hw _ (List.mem_of_getElem? (i := 43) rfl))) Via.refl e1 F_amap_loadFactor E_amap (Or.inr ⟨(hw _ (List.mem_of_getElem? (i := 44) rfl)), rfl, hnm⟩) (hw _ (List.mem_of_getElem? (i := 29) rfl)) (ty := .float) (by decide) rfl rfl (g := (mkF m 7 #[.val (.ref amap)] [(.float (1061158912 : UInt32)), (.ref amap)])) rfl rfl (hb hby d6_7)
  have c2_E_amap := E_amap.wr W2
  have c2_F_amap_table := F_amap_table.other W2 (Or.inr (slot_ne (Or.inl (hw _ (List.mem_of_getElem? (i := 120) rfl))) (Or.inr (hw _ (List.mem_of_getElem? (i := 44) rfl))) (by decide) (t := (.array (.object "java/util/HashMap$Node"))) (t' := .float) (by decide) (by decide)))
  have c2_F_amap_threshold := F_amap_threshold.other W2 (Or.inr (slot_ne (Or.inl (hw _ (List.mem_of_getElem? (i := 127) rfl))) (Or.inr (hw _ (List.mem_of_getElem? (i := 44) rfl))) (by decide) (t := .int) (t' := .float) (by decide) (by decide)))
  have c2_F_amap_modCount := F_amap_modCount.other W2 (Or.inr (slot_ne (Or.inl (hw _ (List.mem_of_getElem? (i := 151) rfl))) (Or.inr (hw _ (List.mem_of_getElem? (i := 44) rfl))) (by decide) (t := .int) (t' := .float) (by decide) (by decide)))
  have c2_F_amap_size := F_amap_size.other W2 (Or.inr (slot_ne (Or.inl (hw _ (List.mem_of_getElem? (i := 153) rfl))) (Or.inr (hw _ (List.mem_of_getElem? (i := 44) rfl))) (by decide) (t := .int) (t' := .float) (by decide) (by decide)))
  have c2_F_amap_loadFactor := F_amap_loadFactor.same W2
  have N2 := Fr.snoc X2 N1 g_amap
  have K2 : Keep h0 h2 [amap] := K0.wr W2 (Or.inl (List.mem_of_getElem? (i := 0) rfl))
  obtain ⟨fs, hr, hrun, hended, hW, hsame⟩ := X2.leave (v := none) (fun _ => rfl)
  refine ⟨_, _, pre0 _ ?_, hrun, hended, _, _, rfl, ?_, ⟨_, rfl⟩, hW, hsame.mono (by decide) (by decide)⟩
  · show Steps p.tables e below (s₁.setTop (mkF m 0 #[.val (.ref amap)] [])) _
    refine XS.aloadN X0.here hx rfl (hb hby d6_0) rfl rfl ?_
    show Steps p.tables e below (s₁.setTop (mkF m 1 #[.val (.ref amap)] [(.ref amap)])) _
    refine st1.trans ?_
    refine XS.aloadN X1.here hx rfl (hb hby d6_4) rfl rfl ?_
    show Steps p.tables e below (T1.setTop (mkF m 5 #[.val (.ref amap)] [(.ref amap)])) _
    refine X1.ldcFloatC hx hown (mvT hZ (hw _ (List.mem_of_getElem? (i := 42) rfl))) (g := (mkF m 5 #[.val (.ref amap)] [(.ref amap)])) rfl (hb hby d6_5) _ ?_
    show Steps p.tables e below (T1.setTop (mkF m 7 #[.val (.ref amap)] [(.float (1061158912 : UInt32)), (.ref amap)])) _
    refine st2 _ ?_
    show Steps p.tables e below (T2.setTop (mkF m 10 #[.val (.ref amap)] [])) _
    exact X2.returnOut hx Bd.returns (hb hby d6_10) hr
  · show Q6 Z amap h0 n0 _ T2.heap _
    rw [e2]
    exact ⟨rfl, N2, K2, c2_E_amap, c2_F_amap_table, c2_F_amap_threshold, c2_F_amap_modCount, c2_F_amap_size, c2_F_amap_loadFactor⟩
theorem ef_3 (m : MethodId) (x0 : Addr) : entryFrame m #[(.ref x0)] 1 = mkF m 0 #[.val (.ref x0)] [] := by first | (simp [entryFrame, mkF, argsToLocals, Value.category]; done) | rfl
def Q3 (Z : State) (aset : Addr)  (h0 : Heap) (n0 : Nat) (v : Option Value) (h : Heap) (L : List Loc) : Prop := ∃ (b2 : Addr), v = none ∧ Fr n0 L ∧ Keep h0 h [aset] ∧ Exa Z h aset "java/util/HashSet" ∧ Fld Z h aset "java/util/HashSet" "map" "Ljava/util/HashMap;" (.ref b2) ∧ Exa Z h b2 "java/util/HashMap" ∧ Fld Z h b2 "java/util/HashMap" "table" "[Ljava/util/HashMap$Node;" .null ∧ Fld Z h b2 "java/util/HashMap" "threshold" "I" (.int (0 : Int32)) ∧ Fld Z h b2 "java/util/HashMap" "modCount" "I" (.int (0 : Int32)) ∧ Fld Z h b2 "java/util/HashMap" "size" "I" (.int (0 : Int32)) ∧ Fld Z h b2 "java/util/HashMap" "loadFactor" "F" (.float (1061158912 : UInt32)) ∧ n0 ≤ b2 ∧ h0.size ≤ b2
set_option maxRecDepth 65536 in
set_option maxHeartbeats 40000000 in
theorem rm3 (l : Launch) (Z : State) (a0 : Array Value) (hw : ∀ d ∈ tables_1, d.before a0 Z = true) (ws : List Jvm.Cond) (aset : Addr)  (h0 : Heap) (n0 : Nat) (Z0 : n0 ≤ h0.size) (E_aset : Exa Z h0 aset "java/util/HashSet") (F_aset_map : Fld Z h0 aset "java/util/HashSet" "map" "Ljava/util/HashMap;" .null) (g_aset : n0 ≤ aset) :
    MetFree l (⟨"java/util/HashSet", "<init>", "()V"⟩ : MethodName) (head1 (Jvm.Cond.code (⟨"java/util/HashSet", "<init>", "()V"⟩ : MethodName) jdk_93_method_1_code 1 none :: ws) ({ frames := 3, cells := 1, slots := 8, locals := 38 } : Room)) (fun a U => a = #[(.ref aset)] ∧ Z.Warmed39 U.vm ∧ U.heap = h0) (fun _ _ _ _ _ => True) (fun _ U o U' => ∃ v L, o = .returned v ∧ Q3 Z aset h0 n0 v U'.heap L ∧ FrameEnd U o U' L ({ frames := 3, cells := 1, slots := 8, locals := 38 } : Room).cells ({ frames := 3, cells := 1, slots := 8, locals := 38 } : Room).slots) := by
  refine MetFree.of_bodySF (plainFor_of_name pn_3) hisR ?_
  intro p e s m args below meth c s₁ Bd hml0 hP hK
  obtain ⟨rfl, hZ, hh⟩ := hP
  have hx := Bd.exec
  have hby := Bd.bytes
  have hml : c.maxLocals = 1 := hml0
  have hown : s.vm.findClass "java/util/HashSet" = some m.cls := findClass_of_methodNamed Bd.named
  have X0 : Stand p l e ({ frames := 3, cells := 1, slots := 8, locals := 38 } : Room) s m #[(.ref aset)] below meth c s₁ [] 0 0 := Stand.of_body Bd
  have e0 : s₁.heap = h0 := by rw [← hh, Bd.state]; rfl
  have N0 := Fr.nil n0
  have pre0 : ∀ t, Steps p.tables e below (s₁.setTop (mkF m 0 #[.val (.ref aset)] [])) t → Steps p.tables e below (s₁.setTop (entryFrame m #[(.ref aset)] 1)) t := fun t k => castTop (ef_3 m aset) k
  have K0 : Keep h0 h0 [aset] := Keep.refl h0 _
  obtain ⟨_, _, ⟨T1, L1, k1, n1⟩, -, X1, ⟨Lc1, hQ1, l1, y1, z1⟩, st1⟩ := X0.specialBack hx (y := (⟨"java/util/AbstractSet", "<init>", "()V"⟩ : MethodName)) rfl hown (mvT hZ (hw _ (List.mem_of_getElem? (i := 15) rfl))) (mvT hZ (hw _ (List.mem_of_getElem? (i := 16) rfl))) (mvT hZ (hw _ (List.mem_of_getElem? (i := 20) rfl))) (by decide) (backOf (W := 0) (rm4 l Z a0 hw [] aset h0 n0 Z0) hZ (hw _ (List.mem_of_getElem? (i := 20) rfl)) (hw _ (List.mem_of_getElem? (i := 19) rfl)) (by decide) (by decide)) (g := (mkF m 1 #[.val (.ref aset)] [(.ref aset)])) rfl (by rw [hml]; rfl) (Steps.refl _) (a := aset) (argsL := []) (rest := []) (lenOf pd_1 rfl) rfl (by show 2 * 0 + _ ≤ _; exact Nat.le_of_eq rfl) (hb hby d3_1) (fun _ _ => ⟨rfl, e0, (by decide : 0 + 0 ≤ _), (by decide : 0 + 0 ≤ _)⟩)
  dsimp only [Pt.U, Pt.locs, Pt.cells, Pt.slots] at X1 l1 y1 z1 st1 hQ1
  subst l1 y1 z1
  obtain ⟨rfl, N1q, e1⟩ := hQ1
  have N1 := Fr.app N0 N1q
  obtain ⟨T2, h2, X2, e2, E2, A2, D2, -, st2⟩ := newO X1 hx hZ hown (hw _ (List.mem_of_getElem? (i := 28) rfl)) (hw _ (List.mem_of_getElem? (i := 29) rfl)) (hw _ (List.mem_of_getElem? (i := 30) rfl)) e1 (g := (mkF m 5 #[.val (.ref aset)] [(.ref aset)])) rfl (hb hby d3_5) (by decide) (by decide)
  obtain ⟨b2, g2⟩ : ∃ z, z = h0.size := ⟨_, rfl⟩
  rw [← g2] at A2 D2 st2
  have ne2_aset : aset ≠ b2 := Nat.ne_of_lt (Nat.lt_of_lt_of_le E_aset.lt (Nat.le_of_eq g2.symm))
  have g_b2 : n0 ≤ b2 := Nat.le_trans Z0 (Nat.le_of_eq g2.symm)
  have Z2 : n0 ≤ h2.size := Nat.le_trans Z0 E2.1
  have sz_b2 : h0.size ≤ b2 := Nat.le_trans K0.1 (Nat.le_of_eq g2.symm)
  have K2 : Keep h0 h2 [aset] := K0.ext E2
  have c2_E_aset := E_aset.ext E2
  have c2_F_aset_map := F_aset_map.ext E2
  have F2_loadFactor : Fld Z h2 b2 "java/util/HashMap" "loadFactor" "F" (.float (0 : UInt32)) := D2 (Or.inr (hw _ (List.mem_of_getElem? (i := 44) rfl))) (ty := .float) (by decide)
  have F2_table : Fld Z h2 b2 "java/util/HashMap" "table" "[Ljava/util/HashMap$Node;" .null := D2 (Or.inl (hw _ (List.mem_of_getElem? (i := 120) rfl))) (ty := (.array (.object "java/util/HashMap$Node"))) (by decide)
  have F2_threshold : Fld Z h2 b2 "java/util/HashMap" "threshold" "I" (.int (0 : Int32)) := D2 (Or.inl (hw _ (List.mem_of_getElem? (i := 127) rfl))) (ty := .int) (by decide)
  have F2_modCount : Fld Z h2 b2 "java/util/HashMap" "modCount" "I" (.int (0 : Int32)) := D2 (Or.inl (hw _ (List.mem_of_getElem? (i := 151) rfl))) (ty := .int) (by decide)
  have F2_size : Fld Z h2 b2 "java/util/HashMap" "size" "I" (.int (0 : Int32)) := D2 (Or.inl (hw _ (List.mem_of_getElem? (i := 153) rfl))) (ty := .int) (by decide)
  obtain ⟨_, _, ⟨T3, L3, k3, n3⟩, -, X3, ⟨Lc3, hQ3, l3, y3, z3⟩, st3⟩ := X2.specialBack hx (y := (⟨"java/util/HashMap", "<init>", "()V"⟩ : MethodName)) rfl hown (mvT hZ (hw _ (List.mem_of_getElem? (i := 31) rfl))) (mvT hZ (hw _ (List.mem_of_getElem? (i := 32) rfl))) (mvT hZ (hw _ (List.mem_of_getElem? (i := 34) rfl))) (by decide) (backOf (W := 2) (rm6 l Z a0 hw [] b2  h2 n0 Z2 A2 F2_table F2_threshold F2_modCount F2_size F2_loadFactor g_b2) hZ (hw _ (List.mem_of_getElem? (i := 34) rfl)) (hw _ (List.mem_of_getElem? (i := 30) rfl)) (by decide) (by decide)) (g := (mkF m 9 #[.val (.ref aset)] [(.ref b2), (.ref b2), (.ref aset)])) rfl (by rw [hml]; rfl) (Steps.refl _) (a := b2) (argsL := []) (rest := [(.ref b2), (.ref aset)]) (lenOf pd_1 rfl) rfl (by show 2 * 0 + _ ≤ _; exact Nat.le_of_eq rfl) (hb hby d3_9) (fun _ _ => ⟨rfl, e2, (by decide : 1 + 0 ≤ _), (by decide : 8 + 0 ≤ _)⟩)
  dsimp only [Pt.U, Pt.locs, Pt.cells, Pt.slots] at X3 l3 y3 z3 st3 hQ3
  subst l3 y3 z3
  obtain ⟨rfl, N3q, K3q, t3_0, t3_1, t3_2, t3_3, t3_4, t3_5⟩ := hQ3
  have N3 := Fr.app N1 N3q
  have c3_E_aset := c2_E_aset.keep K3q
  have c3_F_aset_map := c2_F_aset_map.keep K3q (by simp only [List.mem_cons, List.not_mem_nil, or_false, not_or]; exact ne2_aset)
  have K3 : Keep h0 T3.heap [aset] := K2.trans K3q (fun x hx => by simp only [List.mem_cons, List.not_mem_nil, or_false] at hx; rcases hx with rfl <;> first | exact (Or.inr sz_b2))
  obtain ⟨T4, h4, X4, e4, W4, st4⟩ := putF X3 hx hZ hown (host := "") (Or.inl (hw _ (List.mem_of_getElem? (i := 45) rfl))) Via.refl rfl c3_F_aset_map c3_E_aset (Or.inl (hw _ (List.mem_of_getElem? (i := 46) rfl))) (hw _ (List.mem_of_getElem? (i := 10) rfl)) (ty := (.object "java/util/HashMap")) (by decide) rfl rfl (g := (mkF m 12 #[.val (.ref aset)] [(.ref b2), (.ref aset)])) rfl rfl (hb hby d3_12)
  have c4_E_aset := c3_E_aset.wr W4
  have c4_F_aset_map := c3_F_aset_map.same W4
  have c4_E_b2 := t3_0.wr W4
  have c4_F_b2_table := t3_1.other W4 (Or.inl (Ne.symm ne2_aset))
  have c4_F_b2_threshold := t3_2.other W4 (Or.inl (Ne.symm ne2_aset))
  have c4_F_b2_modCount := t3_3.other W4 (Or.inl (Ne.symm ne2_aset))
  have c4_F_b2_size := t3_4.other W4 (Or.inl (Ne.symm ne2_aset))
  have c4_F_b2_loadFactor := t3_5.other W4 (Or.inl (Ne.symm ne2_aset))
  have N4 := Fr.snoc X4 N3 g_aset
  have K4 : Keep h0 h4 [aset] := K3.wr W4 (Or.inl (List.mem_of_getElem? (i := 0) rfl))
  obtain ⟨fs, hr, hrun, hended, hW, hsame⟩ := X4.leave (v := none) (fun _ => rfl)
  refine ⟨_, _, pre0 _ ?_, hrun, hended, _, _, rfl, ?_, ⟨_, rfl⟩, hW, hsame.mono (by decide) (by decide)⟩
  · show Steps p.tables e below (s₁.setTop (mkF m 0 #[.val (.ref aset)] [])) _
    refine XS.aloadN X0.here hx rfl (hb hby d3_0) rfl rfl ?_
    show Steps p.tables e below (s₁.setTop (mkF m 1 #[.val (.ref aset)] [(.ref aset)])) _
    refine st1.trans ?_
    refine XS.aloadN X1.here hx rfl (hb hby d3_4) rfl rfl ?_
    show Steps p.tables e below (T1.setTop (mkF m 5 #[.val (.ref aset)] [(.ref aset)])) _
    refine st2 _ ?_
    show Steps p.tables e below (T2.setTop (mkF m 8 #[.val (.ref aset)] [(.ref b2), (.ref aset)])) _
    refine XS.dup X2.here hx rfl (hb hby d3_8) rfl rfl ?_
    show Steps p.tables e below (T2.setTop (mkF m 9 #[.val (.ref aset)] [(.ref b2), (.ref b2), (.ref aset)])) _
    refine st3.trans ?_
    show Steps p.tables e below (T3.setTop (mkF m 12 #[.val (.ref aset)] [(.ref b2), (.ref aset)])) _
    refine st4 _ ?_
    show Steps p.tables e below (T4.setTop (mkF m 15 #[.val (.ref aset)] [])) _
    exact X4.returnOut hx Bd.returns (hb hby d3_15) hr
  · show Q3 Z aset h0 n0 _ T4.heap _
    rw [e4]
    exact ⟨b2, rfl, N4, K4, c4_E_aset, c4_F_aset_map, c4_E_b2, c4_F_b2_table, c4_F_b2_threshold, c4_F_b2_modCount, c4_F_b2_size, c4_F_b2_loadFactor, g_b2, sz_b2⟩
theorem ef_1 (m : MethodId) (x0 : Addr) (x1 : Int64) : entryFrame m #[(.ref x0), (.long x1)] 3 = mkF m 0 #[.val (.ref x0), .val (.long x1), .second] [] := by first | (simp [entryFrame, mkF, argsToLocals, Value.category]; done) | rfl
def Q1 (Z : State) (ar : Addr)  (h0 : Heap) (n0 : Nat) (v : Option Value) (h : Heap) (L : List Loc) : Prop := ∃ (b2 : Addr), ∃ (b2_3 : Addr), ∃ (b5 : Addr), ∃ (k5 : ClassId), ∃ (b7 : Addr), ∃ (k7 : ClassId), v = none ∧ Fr n0 L ∧ Keep h0 h [ar] ∧ Exa Z h ar "com/example/kindgen/kindgen/core/document/RecordOrder" ∧ Fld Z h ar "com/example/kindgen/kindgen/core/document/RecordOrder" "outOfOrder" "Ljava/util/Set;" (.ref b2) ∧ Fld Z h ar "com/example/kindgen/kindgen/core/document/RecordOrder" "held" "[I" (.ref b5) ∧ Fld Z h ar "com/example/kindgen/kindgen/core/document/RecordOrder" "levels" "[Lcom/example/kindgen/kindgen/core/document/RecordOrder$Level;" (.ref b7) ∧ Fld Z h ar "com/example/kindgen/kindgen/core/document/RecordOrder" "longBytes" "J" (.long (0 : Int64)) ∧ Fld Z h ar "com/example/kindgen/kindgen/core/document/RecordOrder" "depth" "I" (.int (0 : Int32)) ∧ Fld Z h ar "com/example/kindgen/kindgen/core/document/RecordOrder" "started" "I" (.int (0 : Int32)) ∧ Fld Z h ar "com/example/kindgen/kindgen/core/document/RecordOrder" "heldCount" "I" (.int (0 : Int32)) ∧ Exa Z h b2 "java/util/HashSet" ∧ Fld Z h b2 "java/util/HashSet" "map" "Ljava/util/HashMap;" (.ref b2_3) ∧ n0 ≤ b2 ∧ h0.size ≤ b2 ∧ Exa Z h b2_3 "java/util/HashMap" ∧ Fld Z h b2_3 "java/util/HashMap" "table" "[Ljava/util/HashMap$Node;" .null ∧ Fld Z h b2_3 "java/util/HashMap" "threshold" "I" (.int (0 : Int32)) ∧ Fld Z h b2_3 "java/util/HashMap" "modCount" "I" (.int (0 : Int32)) ∧ Fld Z h b2_3 "java/util/HashMap" "size" "I" (.int (0 : Int32)) ∧ Fld Z h b2_3 "java/util/HashMap" "loadFactor" "F" (.float (1061158912 : UInt32)) ∧ n0 ≤ b2_3 ∧ h0.size ≤ b2_3 ∧ Arv Z h b5 k5 .int (8 : Int32) [(.int (0 : Int32)), (.int (0 : Int32)), (.int (0 : Int32)), (.int (0 : Int32)), (.int (0 : Int32)), (.int (0 : Int32)), (.int (0 : Int32)), (.int (0 : Int32))] (.int (0 : Int32)) ∧ n0 ≤ b5 ∧ h0.size ≤ b5 ∧ Arv Z h b7 k7 (.object "com/example/kindgen/kindgen/core/document/RecordOrder$Level") (16 : Int32) [.null, .null, .null, .null, .null, .null, .null, .null, .null, .null, .null, .null, .null, .null, .null, .null] .null ∧ Ovr Z k7 "com/example/kindgen/kindgen/core/document/RecordOrder$Level" ∧ n0 ≤ b7 ∧ h0.size ≤ b7 ∧ b2 ≠ b2_3 ∧ b2 ≠ b5 ∧ b2_3 ≠ b5 ∧ b2 ≠ b7 ∧ b2_3 ≠ b7 ∧ b5 ≠ b7
set_option maxRecDepth 65536 in
set_option maxHeartbeats 40000000 in
theorem rm1 (l : Launch) (Z : State) (a0 : Array Value) (hw : ∀ d ∈ tables_1, d.before a0 Z = true) (ws : List Jvm.Cond) (ar : Addr)  (h0 : Heap) (n0 : Nat) (Z0 : n0 ≤ h0.size) (E_ar : Exa Z h0 ar "com/example/kindgen/kindgen/core/document/RecordOrder") (F_ar_outOfOrder : Fld Z h0 ar "com/example/kindgen/kindgen/core/document/RecordOrder" "outOfOrder" "Ljava/util/Set;" .null) (F_ar_held : Fld Z h0 ar "com/example/kindgen/kindgen/core/document/RecordOrder" "held" "[I" .null) (F_ar_levels : Fld Z h0 ar "com/example/kindgen/kindgen/core/document/RecordOrder" "levels" "[Lcom/example/kindgen/kindgen/core/document/RecordOrder$Level;" .null) (F_ar_longBytes : Fld Z h0 ar "com/example/kindgen/kindgen/core/document/RecordOrder" "longBytes" "J" (.long (0 : Int64))) (F_ar_depth : Fld Z h0 ar "com/example/kindgen/kindgen/core/document/RecordOrder" "depth" "I" (.int (0 : Int32))) (F_ar_started : Fld Z h0 ar "com/example/kindgen/kindgen/core/document/RecordOrder" "started" "I" (.int (0 : Int32))) (F_ar_heldCount : Fld Z h0 ar "com/example/kindgen/kindgen/core/document/RecordOrder" "heldCount" "I" (.int (0 : Int32))) (g_ar : n0 ≤ ar) :
    MetFree l (⟨"com/example/kindgen/kindgen/core/document/RecordOrder", "<init>", "(J)V"⟩ : MethodName) (head1 (Jvm.Cond.code (⟨"com/example/kindgen/kindgen/core/document/RecordOrder", "<init>", "(J)V"⟩ : MethodName) prog_72_method_2_code 3 none :: ws) ({ frames := 4, cells := 4, slots := 33, locals := 52 } : Room)) (fun a U => a = #[(.ref ar), (.long (0 : Int64))] ∧ Z.Warmed39 U.vm ∧ U.heap = h0) (fun _ _ _ _ _ => True) (fun _ U o U' => ∃ v L, o = .returned v ∧ Q1 Z ar h0 n0 v U'.heap L ∧ FrameEnd U o U' L ({ frames := 4, cells := 4, slots := 33, locals := 52 } : Room).cells ({ frames := 4, cells := 4, slots := 33, locals := 52 } : Room).slots) := by
  refine MetFree.of_bodySF (plainFor_of_name pn_1) hisR ?_
  intro p e s m args below meth c s₁ Bd hml0 hP hK
  obtain ⟨rfl, hZ, hh⟩ := hP
  have hx := Bd.exec
  have hby := Bd.bytes
  have hml : c.maxLocals = 3 := hml0
  have hown : s.vm.findClass "com/example/kindgen/kindgen/core/document/RecordOrder" = some m.cls := findClass_of_methodNamed Bd.named
  have hnm := (name_of_methodNamed Bd.named Bd.method).1
  have X0 : Stand p l e ({ frames := 4, cells := 4, slots := 33, locals := 52 } : Room) s m #[(.ref ar), (.long (0 : Int64))] below meth c s₁ [] 0 0 := Stand.of_body Bd
  have e0 : s₁.heap = h0 := by rw [← hh, Bd.state]; rfl
  have N0 := Fr.nil n0
  have pre0 : ∀ t, Steps p.tables e below (s₁.setTop (mkF m 0 #[.val (.ref ar), .val (.long (0 : Int64)), .second] [])) t → Steps p.tables e below (s₁.setTop (entryFrame m #[(.ref ar), (.long (0 : Int64))] 3)) t := fun t k => castTop (ef_1 m ar (0 : Int64)) k
  have K0 : Keep h0 h0 [ar] := Keep.refl h0 _
  obtain ⟨T1, X1, e1, st1⟩ := initO X0 hx hZ hown (hw _ (List.mem_of_getElem? (i := 6) rfl)) (hw _ (List.mem_of_getElem? (i := 7) rfl)) (hw _ (List.mem_of_getElem? (i := 8) rfl)) e0 (g := (mkF m 1 #[.val (.ref ar), .val (.long (0 : Int64)), .second] [(.ref ar)])) rfl (by rw [hml]; rfl) rfl (hb hby d1_1) (by decide) (W := 0) (by show 2 * 0 + _ ≤ _; exact Nat.le_of_eq rfl) (by decide)
  obtain ⟨T2, h2, X2, e2, E2, A2, D2, -, st2⟩ := newO X1 hx hZ hown (hw _ (List.mem_of_getElem? (i := 9) rfl)) (hw _ (List.mem_of_getElem? (i := 10) rfl)) (hw _ (List.mem_of_getElem? (i := 11) rfl)) e1 (g := (mkF m 5 #[.val (.ref ar), .val (.long (0 : Int64)), .second] [(.ref ar)])) rfl (hb hby d1_5) (by decide) (by decide)
  obtain ⟨b2, g2⟩ : ∃ z, z = h0.size := ⟨_, rfl⟩
  rw [← g2] at A2 D2 st2
  have ne2_ar : ar ≠ b2 := Nat.ne_of_lt (Nat.lt_of_lt_of_le E_ar.lt (Nat.le_of_eq g2.symm))
  have g_b2 : n0 ≤ b2 := Nat.le_trans Z0 (Nat.le_of_eq g2.symm)
  have Z2 : n0 ≤ h2.size := Nat.le_trans Z0 E2.1
  have sz_b2 : h0.size ≤ b2 := Nat.le_trans K0.1 (Nat.le_of_eq g2.symm)
  have K2 : Keep h0 h2 [ar] := K0.ext E2
  have c2_E_ar := E_ar.ext E2
  have c2_F_ar_outOfOrder := F_ar_outOfOrder.ext E2
  have c2_F_ar_held := F_ar_held.ext E2
  have c2_F_ar_levels := F_ar_levels.ext E2
  have c2_F_ar_longBytes := F_ar_longBytes.ext E2
  have c2_F_ar_depth := F_ar_depth.ext E2
  have c2_F_ar_started := F_ar_started.ext E2
  have c2_F_ar_heldCount := F_ar_heldCount.ext E2
  have F2_map : Fld Z h2 b2 "java/util/HashSet" "map" "Ljava/util/HashMap;" .null := D2 (Or.inl (hw _ (List.mem_of_getElem? (i := 46) rfl))) (ty := (.object "java/util/HashMap")) (by decide)
  obtain ⟨_, _, ⟨T3, L3, k3, n3⟩, -, X3, ⟨Lc3, hQ3, l3, y3, z3⟩, st3⟩ := X2.specialBack hx (y := (⟨"java/util/HashSet", "<init>", "()V"⟩ : MethodName)) rfl hown (mvT hZ (hw _ (List.mem_of_getElem? (i := 12) rfl))) (mvT hZ (hw _ (List.mem_of_getElem? (i := 13) rfl))) (mvT hZ (hw _ (List.mem_of_getElem? (i := 14) rfl))) (by decide) (backOf (W := 2) (rm3 l Z a0 hw [] b2  h2 n0 Z2 A2 F2_map g_b2) hZ (hw _ (List.mem_of_getElem? (i := 14) rfl)) (hw _ (List.mem_of_getElem? (i := 11) rfl)) (by decide) (by decide)) (g := (mkF m 9 #[.val (.ref ar), .val (.long (0 : Int64)), .second] [(.ref b2), (.ref b2), (.ref ar)])) rfl (by rw [hml]; rfl) (Steps.refl _) (a := b2) (argsL := []) (rest := [(.ref b2), (.ref ar)]) (lenOf pd_1 rfl) rfl (by show 2 * 0 + _ ≤ _; exact Nat.le_of_eq rfl) (hb hby d1_9) (fun _ _ => ⟨rfl, e2, (by decide : 1 + 1 ≤ _), (by decide : 1 + 8 ≤ _)⟩)
  dsimp only [Pt.U, Pt.locs, Pt.cells, Pt.slots] at X3 l3 y3 z3 st3 hQ3
  subst l3 y3 z3
  obtain ⟨b2_3, rfl, N3q, K3q, t3_0, t3_1, t3_2, t3_3, t3_4, t3_5, t3_6, t3_7, t3_8, t3_9⟩ := hQ3
  have N3 := Fr.app N0 N3q
  have nf3_ar_b2_3 : ar ≠ b2_3 := Nat.ne_of_lt (Nat.lt_of_lt_of_le c2_E_ar.lt t3_9)
  have nf3_b2_b2_3 : b2 ≠ b2_3 := Nat.ne_of_lt (Nat.lt_of_lt_of_le A2.lt t3_9)
  have sz_b2_3 : h0.size ≤ b2_3 := Nat.le_trans K2.1 t3_9
  have c3_E_ar := c2_E_ar.keep K3q
  have c3_F_ar_outOfOrder := c2_F_ar_outOfOrder.keep K3q (by simp only [List.mem_cons, List.not_mem_nil, or_false, not_or]; exact ne2_ar)
  have c3_F_ar_held := c2_F_ar_held.keep K3q (by simp only [List.mem_cons, List.not_mem_nil, or_false, not_or]; exact ne2_ar)
  have c3_F_ar_levels := c2_F_ar_levels.keep K3q (by simp only [List.mem_cons, List.not_mem_nil, or_false, not_or]; exact ne2_ar)
  have c3_F_ar_longBytes := c2_F_ar_longBytes.keep K3q (by simp only [List.mem_cons, List.not_mem_nil, or_false, not_or]; exact ne2_ar)
  have c3_F_ar_depth := c2_F_ar_depth.keep K3q (by simp only [List.mem_cons, List.not_mem_nil, or_false, not_or]; exact ne2_ar)
  have c3_F_ar_started := c2_F_ar_started.keep K3q (by simp only [List.mem_cons, List.not_mem_nil, or_false, not_or]; exact ne2_ar)
  have c3_F_ar_heldCount := c2_F_ar_heldCount.keep K3q (by simp only [List.mem_cons, List.not_mem_nil, or_false, not_or]; exact ne2_ar)
  have Z3 : n0 ≤ T3.heap.size := Nat.le_trans Z2 K3q.1
  have K3 : Keep h0 T3.heap [ar] := K2.trans K3q (fun x hx => by simp only [List.mem_cons, List.not_mem_nil, or_false] at hx; rcases hx with rfl <;> first | exact (Or.inr sz_b2))
  obtain ⟨T4, h4, X4, e4, W4, st4⟩ := putF X3 hx hZ hown (host := "") (Or.inl (hw _ (List.mem_of_getElem? (i := 47) rfl))) Via.refl rfl c3_F_ar_outOfOrder c3_E_ar (Or.inr ⟨(hw _ (List.mem_of_getElem? (i := 48) rfl)), rfl, hnm⟩) (hw _ (List.mem_of_getElem? (i := 1) rfl)) (ty := (.object "java/util/Set")) (by decide) rfl rfl (g := (mkF m 12 #[.val (.ref ar), .val (.long (0 : Int64)), .second] [(.ref b2), (.ref ar)])) rfl rfl (hb hby d1_12)
  have c4_E_ar := c3_E_ar.wr W4
  have c4_F_ar_outOfOrder := c3_F_ar_outOfOrder.same W4
  have c4_F_ar_held := c3_F_ar_held.other W4 (Or.inr (slot_ne (Or.inl (hw _ (List.mem_of_getElem? (i := 51) rfl))) (Or.inr (hw _ (List.mem_of_getElem? (i := 48) rfl))) (by decide) (t := (.array .int)) (t' := (.object "java/util/Set")) (by decide) (by decide)))
  have c4_F_ar_levels := c3_F_ar_levels.other W4 (Or.inr (slot_ne (Or.inl (hw _ (List.mem_of_getElem? (i := 55) rfl))) (Or.inr (hw _ (List.mem_of_getElem? (i := 48) rfl))) (by decide) (t := (.array (.object "com/example/kindgen/kindgen/core/document/RecordOrder$Level"))) (t' := (.object "java/util/Set")) (by decide) (by decide)))
  have c4_F_ar_longBytes := c3_F_ar_longBytes.other W4 (Or.inr (slot_ne (Or.inr (hw _ (List.mem_of_getElem? (i := 57) rfl))) (Or.inr (hw _ (List.mem_of_getElem? (i := 48) rfl))) (by decide) (t := .long) (t' := (.object "java/util/Set")) (by decide) (by decide)))
  have c4_F_ar_depth := c3_F_ar_depth.other W4 (Or.inr (slot_ne (Or.inl (hw _ (List.mem_of_getElem? (i := 64) rfl))) (Or.inr (hw _ (List.mem_of_getElem? (i := 48) rfl))) (by decide) (t := .int) (t' := (.object "java/util/Set")) (by decide) (by decide)))
  have c4_F_ar_started := c3_F_ar_started.other W4 (Or.inr (slot_ne (Or.inl (hw _ (List.mem_of_getElem? (i := 73) rfl))) (Or.inr (hw _ (List.mem_of_getElem? (i := 48) rfl))) (by decide) (t := .int) (t' := (.object "java/util/Set")) (by decide) (by decide)))
  have c4_F_ar_heldCount := c3_F_ar_heldCount.other W4 (Or.inr (slot_ne (Or.inl (hw _ (List.mem_of_getElem? (i := 165) rfl))) (Or.inr (hw _ (List.mem_of_getElem? (i := 48) rfl))) (by decide) (t := .int) (t' := (.object "java/util/Set")) (by decide) (by decide)))
  have c4_E_b2 := t3_0.wr W4
  have c4_F_b2_map := t3_1.other W4 (Or.inl (Ne.symm ne2_ar))
  have c4_E_b2_3 := t3_2.wr W4
  have c4_F_b2_3_table := t3_3.other W4 (Or.inl (Ne.symm nf3_ar_b2_3))
  have c4_F_b2_3_threshold := t3_4.other W4 (Or.inl (Ne.symm nf3_ar_b2_3))
  have c4_F_b2_3_modCount := t3_5.other W4 (Or.inl (Ne.symm nf3_ar_b2_3))
  have c4_F_b2_3_size := t3_6.other W4 (Or.inl (Ne.symm nf3_ar_b2_3))
  have c4_F_b2_3_loadFactor := t3_7.other W4 (Or.inl (Ne.symm nf3_ar_b2_3))
  have N4 := Fr.snoc X4 N3 g_ar
  have Z4 : n0 ≤ h4.size := Nat.le_trans Z3 (Keep.of_wr W4).1
  have K4 : Keep h0 h4 [ar] := K3.wr W4 (Or.inl (List.mem_of_getElem? (i := 0) rfl))
  obtain ⟨T5, h5, k5, X5, e5, E5, A5, st5⟩ := newP X4 hx hZ (hw _ (List.mem_of_getElem? (i := 49) rfl)) e4 (g := (mkF m 18 #[.val (.ref ar), .val (.long (0 : Int64)), .second] [(.int (8 : Int32)), (.ref ar)])) rfl (hb hby d1_18) rfl (by decide) (cap := 8) (by decide) (by decide) (by decide) (by decide)
  obtain ⟨b5, g5⟩ : ∃ z, z = h4.size := ⟨_, rfl⟩
  rw [← g5] at A5 st5
  have ne5_ar : ar ≠ b5 := Nat.ne_of_lt (Nat.lt_of_lt_of_le c4_E_ar.lt (Nat.le_of_eq g5.symm))
  have ne5_b2 : b2 ≠ b5 := Nat.ne_of_lt (Nat.lt_of_lt_of_le c4_E_b2.lt (Nat.le_of_eq g5.symm))
  have ne5_b2_3 : b2_3 ≠ b5 := Nat.ne_of_lt (Nat.lt_of_lt_of_le c4_E_b2_3.lt (Nat.le_of_eq g5.symm))
  have g_b5 : n0 ≤ b5 := Nat.le_trans Z4 (Nat.le_of_eq g5.symm)
  have Z5 : n0 ≤ h5.size := Nat.le_trans Z4 E5.1
  have sz_b5 : h0.size ≤ b5 := Nat.le_trans K4.1 (Nat.le_of_eq g5.symm)
  have K5 : Keep h0 h5 [ar] := K4.ext E5
  have c5_E_ar := c4_E_ar.ext E5
  have c5_F_ar_outOfOrder := c4_F_ar_outOfOrder.ext E5
  have c5_F_ar_held := c4_F_ar_held.ext E5
  have c5_F_ar_levels := c4_F_ar_levels.ext E5
  have c5_F_ar_longBytes := c4_F_ar_longBytes.ext E5
  have c5_F_ar_depth := c4_F_ar_depth.ext E5
  have c5_F_ar_started := c4_F_ar_started.ext E5
  have c5_F_ar_heldCount := c4_F_ar_heldCount.ext E5
  have c5_E_b2 := c4_E_b2.ext E5
  have c5_F_b2_map := c4_F_b2_map.ext E5
  have c5_E_b2_3 := c4_E_b2_3.ext E5
  have c5_F_b2_3_table := c4_F_b2_3_table.ext E5
  have c5_F_b2_3_threshold := c4_F_b2_3_threshold.ext E5
  have c5_F_b2_3_modCount := c4_F_b2_3_modCount.ext E5
  have c5_F_b2_3_size := c4_F_b2_3_size.ext E5
  have c5_F_b2_3_loadFactor := c4_F_b2_3_loadFactor.ext E5
  have V5 : Arv Z h5 b5 k5 .int (8 : Int32) [(.int (0 : Int32)), (.int (0 : Int32)), (.int (0 : Int32)), (.int (0 : Int32)), (.int (0 : Int32)), (.int (0 : Int32)), (.int (0 : Int32)), (.int (0 : Int32))] (.int (0 : Int32)) := (Arv.new A5 (by decide)).pad (pad_rep [] (.int (0 : Int32)) 8)
  obtain ⟨T6, h6, X6, e6, W6, st6⟩ := putF X5 hx hZ hown (host := "") (Or.inl (hw _ (List.mem_of_getElem? (i := 50) rfl))) Via.refl e5 c5_F_ar_held c5_E_ar (Or.inl (hw _ (List.mem_of_getElem? (i := 51) rfl))) (hw _ (List.mem_of_getElem? (i := 1) rfl)) (ty := (.array .int)) (by decide) rfl rfl (g := (mkF m 20 #[.val (.ref ar), .val (.long (0 : Int64)), .second] [(.ref b5), (.ref ar)])) rfl rfl (hb hby d1_20)
  have c6_E_ar := c5_E_ar.wr W6
  have c6_F_ar_outOfOrder := c5_F_ar_outOfOrder.other W6 (Or.inr (slot_ne (Or.inr (hw _ (List.mem_of_getElem? (i := 48) rfl))) (Or.inl (hw _ (List.mem_of_getElem? (i := 51) rfl))) (by decide) (t := (.object "java/util/Set")) (t' := (.array .int)) (by decide) (by decide)))
  have c6_F_ar_held := c5_F_ar_held.same W6
  have c6_F_ar_levels := c5_F_ar_levels.other W6 (Or.inr (slot_ne (Or.inl (hw _ (List.mem_of_getElem? (i := 55) rfl))) (Or.inl (hw _ (List.mem_of_getElem? (i := 51) rfl))) (by decide) (t := (.array (.object "com/example/kindgen/kindgen/core/document/RecordOrder$Level"))) (t' := (.array .int)) (by decide) (by decide)))
  have c6_F_ar_longBytes := c5_F_ar_longBytes.other W6 (Or.inr (slot_ne (Or.inr (hw _ (List.mem_of_getElem? (i := 57) rfl))) (Or.inl (hw _ (List.mem_of_getElem? (i := 51) rfl))) (by decide) (t := .long) (t' := (.array .int)) (by decide) (by decide)))
  have c6_F_ar_depth := c5_F_ar_depth.other W6 (Or.inr (slot_ne (Or.inl (hw _ (List.mem_of_getElem? (i := 64) rfl))) (Or.inl (hw _ (List.mem_of_getElem? (i := 51) rfl))) (by decide) (t := .int) (t' := (.array .int)) (by decide) (by decide)))
  have c6_F_ar_started := c5_F_ar_started.other W6 (Or.inr (slot_ne (Or.inl (hw _ (List.mem_of_getElem? (i := 73) rfl))) (Or.inl (hw _ (List.mem_of_getElem? (i := 51) rfl))) (by decide) (t := .int) (t' := (.array .int)) (by decide) (by decide)))
  have c6_F_ar_heldCount := c5_F_ar_heldCount.other W6 (Or.inr (slot_ne (Or.inl (hw _ (List.mem_of_getElem? (i := 165) rfl))) (Or.inl (hw _ (List.mem_of_getElem? (i := 51) rfl))) (by decide) (t := .int) (t' := (.array .int)) (by decide) (by decide)))
  have c6_E_b2 := c5_E_b2.wr W6
  have c6_F_b2_map := c5_F_b2_map.other W6 (Or.inl (Ne.symm ne2_ar))
  have c6_E_b2_3 := c5_E_b2_3.wr W6
  have c6_F_b2_3_table := c5_F_b2_3_table.other W6 (Or.inl (Ne.symm nf3_ar_b2_3))
  have c6_F_b2_3_threshold := c5_F_b2_3_threshold.other W6 (Or.inl (Ne.symm nf3_ar_b2_3))
  have c6_F_b2_3_modCount := c5_F_b2_3_modCount.other W6 (Or.inl (Ne.symm nf3_ar_b2_3))
  have c6_F_b2_3_size := c5_F_b2_3_size.other W6 (Or.inl (Ne.symm nf3_ar_b2_3))
  have c6_F_b2_3_loadFactor := c5_F_b2_3_loadFactor.other W6 (Or.inl (Ne.symm nf3_ar_b2_3))
  have c6_V_b5 := V5.other W6 (Ne.symm ne5_ar)
  have N6 := Fr.snoc X6 N4 g_ar
  have Z6 : n0 ≤ h6.size := Nat.le_trans Z5 (Keep.of_wr W6).1
  have K6 : Keep h0 h6 [ar] := K5.wr W6 (Or.inl (List.mem_of_getElem? (i := 0) rfl))
  obtain ⟨T7, h7, k7, X7, e7, E7, A7, Ov7, st7⟩ := newR X6 hx hZ hown (hw _ (List.mem_of_getElem? (i := 52) rfl)) (hw _ (List.mem_of_getElem? (i := 53) rfl)) e6 (g := (mkF m 26 #[.val (.ref ar), .val (.long (0 : Int64)), .second] [(.int (16 : Int32)), (.ref ar)])) rfl (hb hby d1_26) rfl (by decide) (cap := 16) (by decide) (by decide) (by decide) (by decide)
  obtain ⟨b7, g7⟩ : ∃ z, z = h6.size := ⟨_, rfl⟩
  rw [← g7] at A7 st7
  have ne7_ar : ar ≠ b7 := Nat.ne_of_lt (Nat.lt_of_lt_of_le c6_E_ar.lt (Nat.le_of_eq g7.symm))
  have ne7_b2 : b2 ≠ b7 := Nat.ne_of_lt (Nat.lt_of_lt_of_le c6_E_b2.lt (Nat.le_of_eq g7.symm))
  have ne7_b2_3 : b2_3 ≠ b7 := Nat.ne_of_lt (Nat.lt_of_lt_of_le c6_E_b2_3.lt (Nat.le_of_eq g7.symm))
  have ne7_b5 : b5 ≠ b7 := Nat.ne_of_lt (Nat.lt_of_lt_of_le c6_V_b5.lt (Nat.le_of_eq g7.symm))
  have g_b7 : n0 ≤ b7 := Nat.le_trans Z6 (Nat.le_of_eq g7.symm)
  have sz_b7 : h0.size ≤ b7 := Nat.le_trans K6.1 (Nat.le_of_eq g7.symm)
  have K7 : Keep h0 h7 [ar] := K6.ext E7
  have c7_E_ar := c6_E_ar.ext E7
  have c7_F_ar_outOfOrder := c6_F_ar_outOfOrder.ext E7
  have c7_F_ar_held := c6_F_ar_held.ext E7
  have c7_F_ar_levels := c6_F_ar_levels.ext E7
  have c7_F_ar_longBytes := c6_F_ar_longBytes.ext E7
  have c7_F_ar_depth := c6_F_ar_depth.ext E7
  have c7_F_ar_started := c6_F_ar_started.ext E7
  have c7_F_ar_heldCount := c6_F_ar_heldCount.ext E7
  have c7_E_b2 := c6_E_b2.ext E7
  have c7_F_b2_map := c6_F_b2_map.ext E7
  have c7_E_b2_3 := c6_E_b2_3.ext E7
  have c7_F_b2_3_table := c6_F_b2_3_table.ext E7
  have c7_F_b2_3_threshold := c6_F_b2_3_threshold.ext E7
  have c7_F_b2_3_modCount := c6_F_b2_3_modCount.ext E7
  have c7_F_b2_3_size := c6_F_b2_3_size.ext E7
  have c7_F_b2_3_loadFactor := c6_F_b2_3_loadFactor.ext E7
  have c7_V_b5 := c6_V_b5.ext E7
  have V7 : Arv Z h7 b7 k7 (.object "com/example/kindgen/kindgen/core/document/RecordOrder$Level") (16 : Int32) [.null, .null, .null, .null, .null, .null, .null, .null, .null, .null, .null, .null, .null, .null, .null, .null] .null := (Arv.new A7 (by decide)).pad (pad_rep [] .null 16)
  obtain ⟨T8, h8, X8, e8, W8, st8⟩ := putF X7 hx hZ hown (host := "") (Or.inl (hw _ (List.mem_of_getElem? (i := 54) rfl))) Via.refl e7 c7_F_ar_levels c7_E_ar (Or.inl (hw _ (List.mem_of_getElem? (i := 55) rfl))) (hw _ (List.mem_of_getElem? (i := 1) rfl)) (ty := (.array (.object "com/example/kindgen/kindgen/core/document/RecordOrder$Level"))) (by decide) rfl rfl (g := (mkF m 29 #[.val (.ref ar), .val (.long (0 : Int64)), .second] [(.ref b7), (.ref ar)])) rfl rfl (hb hby d1_29)
  have c8_E_ar := c7_E_ar.wr W8
  have c8_F_ar_outOfOrder := c7_F_ar_outOfOrder.other W8 (Or.inr (slot_ne (Or.inr (hw _ (List.mem_of_getElem? (i := 48) rfl))) (Or.inl (hw _ (List.mem_of_getElem? (i := 55) rfl))) (by decide) (t := (.object "java/util/Set")) (t' := (.array (.object "com/example/kindgen/kindgen/core/document/RecordOrder$Level"))) (by decide) (by decide)))
  have c8_F_ar_held := c7_F_ar_held.other W8 (Or.inr (slot_ne (Or.inl (hw _ (List.mem_of_getElem? (i := 51) rfl))) (Or.inl (hw _ (List.mem_of_getElem? (i := 55) rfl))) (by decide) (t := (.array .int)) (t' := (.array (.object "com/example/kindgen/kindgen/core/document/RecordOrder$Level"))) (by decide) (by decide)))
  have c8_F_ar_levels := c7_F_ar_levels.same W8
  have c8_F_ar_longBytes := c7_F_ar_longBytes.other W8 (Or.inr (slot_ne (Or.inr (hw _ (List.mem_of_getElem? (i := 57) rfl))) (Or.inl (hw _ (List.mem_of_getElem? (i := 55) rfl))) (by decide) (t := .long) (t' := (.array (.object "com/example/kindgen/kindgen/core/document/RecordOrder$Level"))) (by decide) (by decide)))
  have c8_F_ar_depth := c7_F_ar_depth.other W8 (Or.inr (slot_ne (Or.inl (hw _ (List.mem_of_getElem? (i := 64) rfl))) (Or.inl (hw _ (List.mem_of_getElem? (i := 55) rfl))) (by decide) (t := .int) (t' := (.array (.object "com/example/kindgen/kindgen/core/document/RecordOrder$Level"))) (by decide) (by decide)))
  have c8_F_ar_started := c7_F_ar_started.other W8 (Or.inr (slot_ne (Or.inl (hw _ (List.mem_of_getElem? (i := 73) rfl))) (Or.inl (hw _ (List.mem_of_getElem? (i := 55) rfl))) (by decide) (t := .int) (t' := (.array (.object "com/example/kindgen/kindgen/core/document/RecordOrder$Level"))) (by decide) (by decide)))
  have c8_F_ar_heldCount := c7_F_ar_heldCount.other W8 (Or.inr (slot_ne (Or.inl (hw _ (List.mem_of_getElem? (i := 165) rfl))) (Or.inl (hw _ (List.mem_of_getElem? (i := 55) rfl))) (by decide) (t := .int) (t' := (.array (.object "com/example/kindgen/kindgen/core/document/RecordOrder$Level"))) (by decide) (by decide)))
  have c8_E_b2 := c7_E_b2.wr W8
  have c8_F_b2_map := c7_F_b2_map.other W8 (Or.inl (Ne.symm ne2_ar))
  have c8_E_b2_3 := c7_E_b2_3.wr W8
  have c8_F_b2_3_table := c7_F_b2_3_table.other W8 (Or.inl (Ne.symm nf3_ar_b2_3))
  have c8_F_b2_3_threshold := c7_F_b2_3_threshold.other W8 (Or.inl (Ne.symm nf3_ar_b2_3))
  have c8_F_b2_3_modCount := c7_F_b2_3_modCount.other W8 (Or.inl (Ne.symm nf3_ar_b2_3))
  have c8_F_b2_3_size := c7_F_b2_3_size.other W8 (Or.inl (Ne.symm nf3_ar_b2_3))
  have c8_F_b2_3_loadFactor := c7_F_b2_3_loadFactor.other W8 (Or.inl (Ne.symm nf3_ar_b2_3))
  have c8_V_b5 := c7_V_b5.other W8 (Ne.symm ne5_ar)
  have c8_V_b7 := V7.other W8 (Ne.symm ne7_ar)
  have N8 := Fr.snoc X8 N6 g_ar
  have K8 : Keep h0 h8 [ar] := K7.wr W8 (Or.inl (List.mem_of_getElem? (i := 0) rfl))
  obtain ⟨T9, h9, X9, e9, W9, st9⟩ := putF X8 hx hZ hown (host := "") (Or.inl (hw _ (List.mem_of_getElem? (i := 56) rfl))) Via.refl e8 c8_F_ar_longBytes c8_E_ar (Or.inr ⟨(hw _ (List.mem_of_getElem? (i := 57) rfl)), rfl, hnm⟩) (hw _ (List.mem_of_getElem? (i := 1) rfl)) (ty := .long) (by decide) rfl rfl (g := (mkF m 34 #[.val (.ref ar), .val (.long (0 : Int64)), .second] [(.long (0 : Int64)), (.ref ar)])) rfl rfl (hb hby d1_34)
  have c9_E_ar := c8_E_ar.wr W9
  have c9_F_ar_outOfOrder := c8_F_ar_outOfOrder.other W9 (Or.inr (slot_ne (Or.inr (hw _ (List.mem_of_getElem? (i := 48) rfl))) (Or.inr (hw _ (List.mem_of_getElem? (i := 57) rfl))) (by decide) (t := (.object "java/util/Set")) (t' := .long) (by decide) (by decide)))
  have c9_F_ar_held := c8_F_ar_held.other W9 (Or.inr (slot_ne (Or.inl (hw _ (List.mem_of_getElem? (i := 51) rfl))) (Or.inr (hw _ (List.mem_of_getElem? (i := 57) rfl))) (by decide) (t := (.array .int)) (t' := .long) (by decide) (by decide)))
  have c9_F_ar_levels := c8_F_ar_levels.other W9 (Or.inr (slot_ne (Or.inl (hw _ (List.mem_of_getElem? (i := 55) rfl))) (Or.inr (hw _ (List.mem_of_getElem? (i := 57) rfl))) (by decide) (t := (.array (.object "com/example/kindgen/kindgen/core/document/RecordOrder$Level"))) (t' := .long) (by decide) (by decide)))
  have c9_F_ar_longBytes := c8_F_ar_longBytes.same W9
  have c9_F_ar_depth := c8_F_ar_depth.other W9 (Or.inr (slot_ne (Or.inl (hw _ (List.mem_of_getElem? (i := 64) rfl))) (Or.inr (hw _ (List.mem_of_getElem? (i := 57) rfl))) (by decide) (t := .int) (t' := .long) (by decide) (by decide)))
  have c9_F_ar_started := c8_F_ar_started.other W9 (Or.inr (slot_ne (Or.inl (hw _ (List.mem_of_getElem? (i := 73) rfl))) (Or.inr (hw _ (List.mem_of_getElem? (i := 57) rfl))) (by decide) (t := .int) (t' := .long) (by decide) (by decide)))
  have c9_F_ar_heldCount := c8_F_ar_heldCount.other W9 (Or.inr (slot_ne (Or.inl (hw _ (List.mem_of_getElem? (i := 165) rfl))) (Or.inr (hw _ (List.mem_of_getElem? (i := 57) rfl))) (by decide) (t := .int) (t' := .long) (by decide) (by decide)))
  have c9_E_b2 := c8_E_b2.wr W9
  have c9_F_b2_map := c8_F_b2_map.other W9 (Or.inl (Ne.symm ne2_ar))
  have c9_E_b2_3 := c8_E_b2_3.wr W9
  have c9_F_b2_3_table := c8_F_b2_3_table.other W9 (Or.inl (Ne.symm nf3_ar_b2_3))
  have c9_F_b2_3_threshold := c8_F_b2_3_threshold.other W9 (Or.inl (Ne.symm nf3_ar_b2_3))
  have c9_F_b2_3_modCount := c8_F_b2_3_modCount.other W9 (Or.inl (Ne.symm nf3_ar_b2_3))
  have c9_F_b2_3_size := c8_F_b2_3_size.other W9 (Or.inl (Ne.symm nf3_ar_b2_3))
  have c9_F_b2_3_loadFactor := c8_F_b2_3_loadFactor.other W9 (Or.inl (Ne.symm nf3_ar_b2_3))
  have c9_V_b5 := c8_V_b5.other W9 (Ne.symm ne5_ar)
  have c9_V_b7 := c8_V_b7.other W9 (Ne.symm ne7_ar)
  have N9 := Fr.snoc X9 N8 g_ar
  have K9 : Keep h0 h9 [ar] := K8.wr W9 (Or.inl (List.mem_of_getElem? (i := 0) rfl))
  obtain ⟨fs, hr, hrun, hended, hW, hsame⟩ := X9.leave (v := none) (fun _ => rfl)
  refine ⟨_, _, pre0 _ ?_, hrun, hended, _, _, rfl, ?_, ⟨_, rfl⟩, hW, hsame.mono (by decide) (by decide)⟩
  · show Steps p.tables e below (s₁.setTop (mkF m 0 #[.val (.ref ar), .val (.long (0 : Int64)), .second] [])) _
    refine XS.aloadN X0.here hx rfl (hb hby d1_0) rfl rfl ?_
    show Steps p.tables e below (s₁.setTop (mkF m 1 #[.val (.ref ar), .val (.long (0 : Int64)), .second] [(.ref ar)])) _
    refine st1 _ ?_
    refine XS.aloadN X1.here hx rfl (hb hby d1_4) rfl rfl ?_
    show Steps p.tables e below (T1.setTop (mkF m 5 #[.val (.ref ar), .val (.long (0 : Int64)), .second] [(.ref ar)])) _
    refine st2 _ ?_
    show Steps p.tables e below (T2.setTop (mkF m 8 #[.val (.ref ar), .val (.long (0 : Int64)), .second] [(.ref b2), (.ref ar)])) _
    refine XS.dup X2.here hx rfl (hb hby d1_8) rfl rfl ?_
    show Steps p.tables e below (T2.setTop (mkF m 9 #[.val (.ref ar), .val (.long (0 : Int64)), .second] [(.ref b2), (.ref b2), (.ref ar)])) _
    refine st3.trans ?_
    show Steps p.tables e below (T3.setTop (mkF m 12 #[.val (.ref ar), .val (.long (0 : Int64)), .second] [(.ref b2), (.ref ar)])) _
    refine st4 _ ?_
    refine XS.aloadN X4.here hx rfl (hb hby d1_15) rfl rfl ?_
    refine XS.bipush X4.here hx rfl (hb hby d1_16) ?_
    show Steps p.tables e below (T4.setTop (mkF m 18 #[.val (.ref ar), .val (.long (0 : Int64)), .second] [(.int (8 : Int32)), (.ref ar)])) _
    refine st5 _ ?_
    show Steps p.tables e below (T5.setTop (mkF m 20 #[.val (.ref ar), .val (.long (0 : Int64)), .second] [(.ref b5), (.ref ar)])) _
    refine st6 _ ?_
    refine XS.aloadN X6.here hx rfl (hb hby d1_23) rfl rfl ?_
    refine XS.bipush X6.here hx rfl (hb hby d1_24) ?_
    show Steps p.tables e below (T6.setTop (mkF m 26 #[.val (.ref ar), .val (.long (0 : Int64)), .second] [(.int (16 : Int32)), (.ref ar)])) _
    refine st7 _ ?_
    show Steps p.tables e below (T7.setTop (mkF m 29 #[.val (.ref ar), .val (.long (0 : Int64)), .second] [(.ref b7), (.ref ar)])) _
    refine st8 _ ?_
    refine XS.aloadN X8.here hx rfl (hb hby d1_32) rfl rfl ?_
    refine XS.lloadN X8.here hx rfl (hb hby d1_33) rfl ?_
    show Steps p.tables e below (T8.setTop (mkF m 34 #[.val (.ref ar), .val (.long (0 : Int64)), .second] [(.long (0 : Int64)), (.ref ar)])) _
    refine st9 _ ?_
    show Steps p.tables e below (T9.setTop (mkF m 37 #[.val (.ref ar), .val (.long (0 : Int64)), .second] [])) _
    exact X9.returnOut hx Bd.returns (hb hby d1_37) hr
  · show Q1 Z ar h0 n0 _ T9.heap _
    rw [e9]
    exact ⟨b2, b2_3, b5, k5, b7, k7, rfl, N9, K9, c9_E_ar, c9_F_ar_outOfOrder, c9_F_ar_held, c9_F_ar_levels, c9_F_ar_longBytes, c9_F_ar_depth, c9_F_ar_started, c9_F_ar_heldCount, c9_E_b2, c9_F_b2_map, g_b2, sz_b2, c9_E_b2_3, c9_F_b2_3_table, c9_F_b2_3_threshold, c9_F_b2_3_modCount, c9_F_b2_3_size, c9_F_b2_3_loadFactor, t3_8, sz_b2_3, c9_V_b5, g_b5, sz_b5, c9_V_b7, Ov7, g_b7, sz_b7, nf3_b2_b2_3, ne5_b2, ne5_b2_3, ne7_b2, ne7_b2_3, ne7_b5⟩
theorem ef_8n (m : MethodId) (x0 : Addr) (x2 : Int64) : entryFrame m #[(.ref x0), .null, (.long x2)] 5 = mkF m 0 #[.val (.ref x0), .val .null, .val (.long x2), .second, .unset] [] := by first | (simp [entryFrame, mkF, argsToLocals, Value.category]; done) | rfl
def Q8s0 (Z : State) (ar : Addr) (aset : Addr) (ahd : Addr) (alv : Addr) (kl : ClassId) (h0 : Heap) (n0 : Nat) (v : Option Value) (h : Heap) (L : List Loc) : Prop := ∃ (b9 : Addr), v = none ∧ Fr n0 L ∧ Keep h0 h [ar, alv] ∧ Exa Z h ar "com/example/kindgen/kindgen/core/document/RecordOrder" ∧ Fld Z h ar "com/example/kindgen/kindgen/core/document/RecordOrder" "outOfOrder" "Ljava/util/Set;" (.ref aset) ∧ Fld Z h ar "com/example/kindgen/kindgen/core/document/RecordOrder" "held" "[I" (.ref ahd) ∧ Fld Z h ar "com/example/kindgen/kindgen/core/document/RecordOrder" "levels" "[Lcom/example/kindgen/kindgen/core/document/RecordOrder$Level;" (.ref alv) ∧ Fld Z h ar "com/example/kindgen/kindgen/core/document/RecordOrder" "longBytes" "J" (.long (0 : Int64)) ∧ Fld Z h ar "com/example/kindgen/kindgen/core/document/RecordOrder" "depth" "I" (.int (1 : Int32)) ∧ Fld Z h ar "com/example/kindgen/kindgen/core/document/RecordOrder" "started" "I" (.int (1 : Int32)) ∧ Fld Z h ar "com/example/kindgen/kindgen/core/document/RecordOrder" "heldCount" "I" (.int (0 : Int32)) ∧ Arv Z h alv kl (.object "com/example/kindgen/kindgen/core/document/RecordOrder$Level") (16 : Int32) [(.ref b9), .null, .null, .null, .null, .null, .null, .null, .null, .null, .null, .null, .null, .null, .null, .null] .null ∧ Exa Z h b9 "com/example/kindgen/kindgen/core/document/RecordOrder$Level" ∧ Fld Z h b9 "com/example/kindgen/kindgen/core/document/RecordOrder$Level" "number" "I" (.int (0 : Int32)) ∧ Fld Z h b9 "com/example/kindgen/kindgen/core/document/RecordOrder$Level" "record" "Lcom/example/kindgen/kindgen/runtime/RecordShape;" .null ∧ Fld Z h b9 "com/example/kindgen/kindgen/core/document/RecordOrder$Level" "start" "J" (.long (0 : Int64)) ∧ Fld Z h b9 "com/example/kindgen/kindgen/core/document/RecordOrder$Level" "lastDeclared" "I" (.int (-1 : Int32)) ∧ Fld Z h b9 "com/example/kindgen/kindgen/core/document/RecordOrder$Level" "kept" "Z" (.int (0 : Int32)) ∧ Fld Z h b9 "com/example/kindgen/kindgen/core/document/RecordOrder$Level" "out" "Z" (.int (0 : Int32)) ∧ n0 ≤ b9 ∧ h0.size ≤ b9
set_option maxRecDepth 65536 in
set_option maxHeartbeats 40000000 in
theorem rm8s0 (l : Launch) (Z : State) (a0 : Array Value) (hw : ∀ d ∈ tables_1, d.before a0 Z = true) (ws : List Jvm.Cond) (ar : Addr) (aset : Addr) (ahd : Addr) (alv : Addr) (kl : ClassId) (h0 : Heap) (n0 : Nat) (Z0 : n0 ≤ h0.size) (E_ar : Exa Z h0 ar "com/example/kindgen/kindgen/core/document/RecordOrder") (F_ar_outOfOrder : Fld Z h0 ar "com/example/kindgen/kindgen/core/document/RecordOrder" "outOfOrder" "Ljava/util/Set;" (.ref aset)) (F_ar_held : Fld Z h0 ar "com/example/kindgen/kindgen/core/document/RecordOrder" "held" "[I" (.ref ahd)) (F_ar_levels : Fld Z h0 ar "com/example/kindgen/kindgen/core/document/RecordOrder" "levels" "[Lcom/example/kindgen/kindgen/core/document/RecordOrder$Level;" (.ref alv)) (F_ar_longBytes : Fld Z h0 ar "com/example/kindgen/kindgen/core/document/RecordOrder" "longBytes" "J" (.long (0 : Int64))) (F_ar_depth : Fld Z h0 ar "com/example/kindgen/kindgen/core/document/RecordOrder" "depth" "I" (.int (0 : Int32))) (F_ar_started : Fld Z h0 ar "com/example/kindgen/kindgen/core/document/RecordOrder" "started" "I" (.int (0 : Int32))) (F_ar_heldCount : Fld Z h0 ar "com/example/kindgen/kindgen/core/document/RecordOrder" "heldCount" "I" (.int (0 : Int32))) (V_alv : Arv Z h0 alv kl (.object "com/example/kindgen/kindgen/core/document/RecordOrder$Level") (16 : Int32) [.null, .null, .null, .null, .null, .null, .null, .null, .null, .null, .null, .null, .null, .null, .null, .null] .null) (Ov_alv : Ovr Z kl "com/example/kindgen/kindgen/core/document/RecordOrder$Level") (ne_ar_alv : ar ≠ alv) (g_ar : n0 ≤ ar) (g_alv : n0 ≤ alv) :
    MetFree l (⟨"com/example/kindgen/kindgen/core/document/RecordOrder", "start", "(Lcom/example/kindgen/kindgen/runtime/RecordShape;J)V"⟩ : MethodName) (head1 (Jvm.Cond.code (⟨"com/example/kindgen/kindgen/core/document/RecordOrder", "start", "(Lcom/example/kindgen/kindgen/runtime/RecordShape;J)V"⟩ : MethodName) prog_72_method_4_code 5 none :: ws) ({ frames := 2, cells := 1, slots := 6, locals := 28 } : Room)) (fun a U => a = #[(.ref ar), .null, (.long (0 : Int64))] ∧ Z.Warmed39 U.vm ∧ U.heap = h0) (fun _ _ _ _ _ => True) (fun _ U o U' => ∃ v L, o = .returned v ∧ Q8s0 Z ar aset ahd alv kl h0 n0 v U'.heap L ∧ FrameEnd U o U' L ({ frames := 2, cells := 1, slots := 6, locals := 28 } : Room).cells ({ frames := 2, cells := 1, slots := 6, locals := 28 } : Room).slots) := by
  refine MetFree.of_bodySF (plainFor_of_name pn_8) hisR ?_
  intro p e s m args below meth c s₁ Bd hml0 hP hK
  obtain ⟨rfl, hZ, hh⟩ := hP
  have hx := Bd.exec
  have hby := Bd.bytes
  have hml : c.maxLocals = 5 := hml0
  have hown : s.vm.findClass "com/example/kindgen/kindgen/core/document/RecordOrder" = some m.cls := findClass_of_methodNamed Bd.named
  have X0 : Stand p l e ({ frames := 2, cells := 1, slots := 6, locals := 28 } : Room) s m #[(.ref ar), .null, (.long (0 : Int64))] below meth c s₁ [] 0 0 := Stand.of_body Bd
  have e0 : s₁.heap = h0 := by rw [← hh, Bd.state]; rfl
  have N0 := Fr.nil n0
  have pre0 : ∀ t, Steps p.tables e below (s₁.setTop (mkF m 0 #[.val (.ref ar), .val .null, .val (.long (0 : Int64)), .second, .unset] [])) t → Steps p.tables e below (s₁.setTop (entryFrame m #[(.ref ar), .null, (.long (0 : Int64))] 5)) t := fun t k => castTop (ef_8n m ar (0 : Int64)) k
  have K0 : Keep h0 h0 [ar, alv] := Keep.refl h0 _
  obtain ⟨T1, X1, e1, st1⟩ := getF X0 hx hZ hown (host := "") (Or.inl (hw _ (List.mem_of_getElem? (i := 63) rfl))) Via.refl e0 F_ar_depth (g := (mkF m 1 #[.val (.ref ar), .val .null, .val (.long (0 : Int64)), .second, .unset] [(.ref ar)])) rfl rfl (hb hby d8_1)
  obtain ⟨T2, X2, e2, st2⟩ := getF X1 hx hZ hown (host := "") (Or.inl (hw _ (List.mem_of_getElem? (i := 54) rfl))) Via.refl e1 F_ar_levels (g := (mkF m 5 #[.val (.ref ar), .val .null, .val (.long (0 : Int64)), .second, .unset] [(.ref ar), (.int (0 : Int32))])) rfl rfl (hb hby d8_5)
  obtain ⟨cl_3, Ar_3, -, S_3, N_3, -, -⟩ := id V_alv
  obtain ⟨T4, X4, e4, st4⟩ := getF X2 hx hZ hown (host := "") (Or.inl (hw _ (List.mem_of_getElem? (i := 54) rfl))) Via.refl e2 F_ar_levels (g := (mkF m 33 #[.val (.ref ar), .val .null, .val (.long (0 : Int64)), .second, .unset] [(.ref ar)])) rfl rfl (hb hby d8_33)
  obtain ⟨T5, X5, e5, st5⟩ := getF X4 hx hZ hown (host := "") (Or.inl (hw _ (List.mem_of_getElem? (i := 63) rfl))) Via.refl e4 F_ar_depth (g := (mkF m 37 #[.val (.ref ar), .val .null, .val (.long (0 : Int64)), .second, .unset] [(.ref ar), (.ref alv)])) rfl rfl (hb hby d8_37)
  obtain ⟨cl_6, Ar_6, -, S_6, N_6, H_6, -⟩ := id V_alv
  have hin_6 : ¬ ((0 : Int32) < 0 ∨ cl_6.slots.size ≤ ((0 : Int32)).toNatClampNeg) := inb_of S_6 ⟨by decide, by decide⟩
  have hat_6 : cl_6.slots[((0 : Int32)).toNatClampNeg]? = some .null := Has.at H_6 hin_6 rfl
  obtain ⟨T7, X7, e7, st7⟩ := getF X5 hx hZ hown (host := "") (Or.inl (hw _ (List.mem_of_getElem? (i := 54) rfl))) Via.refl e5 F_ar_levels (g := (mkF m 45 #[.val (.ref ar), .val .null, .val (.long (0 : Int64)), .second, .unset] [(.ref ar)])) rfl rfl (hb hby d8_45)
  obtain ⟨T8, X8, e8, st8⟩ := getF X7 hx hZ hown (host := "") (Or.inl (hw _ (List.mem_of_getElem? (i := 63) rfl))) Via.refl e7 F_ar_depth (g := (mkF m 49 #[.val (.ref ar), .val .null, .val (.long (0 : Int64)), .second, .unset] [(.ref ar), (.ref alv)])) rfl rfl (hb hby d8_49)
  obtain ⟨T9, h9, X9, e9, E9, A9, D9, -, st9⟩ := newO X8 hx hZ hown (hw _ (List.mem_of_getElem? (i := 52) rfl)) (hw _ (List.mem_of_getElem? (i := 65) rfl)) (hw _ (List.mem_of_getElem? (i := 66) rfl)) e8 (g := (mkF m 52 #[.val (.ref ar), .val .null, .val (.long (0 : Int64)), .second, .unset] [(.int (0 : Int32)), (.ref alv)])) rfl (hb hby d8_52) (by decide) (by decide)
  obtain ⟨b9, g9⟩ : ∃ z, z = h0.size := ⟨_, rfl⟩
  rw [← g9] at A9 D9 st9
  have ne9_ar : ar ≠ b9 := Nat.ne_of_lt (Nat.lt_of_lt_of_le E_ar.lt (Nat.le_of_eq g9.symm))
  have ne9_alv : alv ≠ b9 := Nat.ne_of_lt (Nat.lt_of_lt_of_le V_alv.lt (Nat.le_of_eq g9.symm))
  have g_b9 : n0 ≤ b9 := Nat.le_trans Z0 (Nat.le_of_eq g9.symm)
  have Z9 : n0 ≤ h9.size := Nat.le_trans Z0 E9.1
  have sz_b9 : h0.size ≤ b9 := Nat.le_trans K0.1 (Nat.le_of_eq g9.symm)
  have K9 : Keep h0 h9 [ar, alv] := K0.ext E9
  have c9_E_ar := E_ar.ext E9
  have c9_F_ar_outOfOrder := F_ar_outOfOrder.ext E9
  have c9_F_ar_held := F_ar_held.ext E9
  have c9_F_ar_levels := F_ar_levels.ext E9
  have c9_F_ar_longBytes := F_ar_longBytes.ext E9
  have c9_F_ar_depth := F_ar_depth.ext E9
  have c9_F_ar_started := F_ar_started.ext E9
  have c9_F_ar_heldCount := F_ar_heldCount.ext E9
  have c9_V_alv := V_alv.ext E9
  have F9_number : Fld Z h9 b9 "com/example/kindgen/kindgen/core/document/RecordOrder$Level" "number" "I" (.int (0 : Int32)) := D9 (Or.inl (hw _ (List.mem_of_getElem? (i := 75) rfl))) (ty := .int) (by decide)
  have F9_record : Fld Z h9 b9 "com/example/kindgen/kindgen/core/document/RecordOrder$Level" "record" "Lcom/example/kindgen/kindgen/runtime/RecordShape;" .null := D9 (Or.inl (hw _ (List.mem_of_getElem? (i := 77) rfl))) (ty := (.object "com/example/kindgen/kindgen/runtime/RecordShape")) (by decide)
  have F9_start : Fld Z h9 b9 "com/example/kindgen/kindgen/core/document/RecordOrder$Level" "start" "J" (.long (0 : Int64)) := D9 (Or.inl (hw _ (List.mem_of_getElem? (i := 79) rfl))) (ty := .long) (by decide)
  have F9_lastDeclared : Fld Z h9 b9 "com/example/kindgen/kindgen/core/document/RecordOrder$Level" "lastDeclared" "I" (.int (0 : Int32)) := D9 (Or.inl (hw _ (List.mem_of_getElem? (i := 81) rfl))) (ty := .int) (by decide)
  have F9_kept : Fld Z h9 b9 "com/example/kindgen/kindgen/core/document/RecordOrder$Level" "kept" "Z" (.int (0 : Int32)) := D9 (Or.inl (hw _ (List.mem_of_getElem? (i := 83) rfl))) (ty := .boolean) (by decide)
  have F9_out : Fld Z h9 b9 "com/example/kindgen/kindgen/core/document/RecordOrder$Level" "out" "Z" (.int (0 : Int32)) := D9 (Or.inl (hw _ (List.mem_of_getElem? (i := 85) rfl))) (ty := .boolean) (by decide)
  obtain ⟨_, _, ⟨T10, L10, k10, n10⟩, -, X10, ⟨Lc10, hQ10, l10, y10, z10⟩, st10⟩ := own_specialR X9 hx hZ (y := (⟨"com/example/kindgen/kindgen/core/document/RecordOrder$Level", "<init>", "()V"⟩ : MethodName)) rfl hown (hw _ (List.mem_of_getElem? (i := 67) rfl)) (hw _ (List.mem_of_getElem? (i := 68) rfl)) (hw _ (List.mem_of_getElem? (i := 69) rfl)) (by decide) (backOf (W := 3) (rm9 l Z a0 hw [] b9 h9 n0 Z9) hZ (hw _ (List.mem_of_getElem? (i := 69) rfl)) (hw _ (List.mem_of_getElem? (i := 66) rfl)) (by decide) (by decide)) (g := (mkF m 56 #[.val (.ref ar), .val .null, .val (.long (0 : Int64)), .second, .unset] [(.ref b9), (.ref b9), (.int (0 : Int32)), (.ref alv)])) rfl (by rw [hml]; rfl) (Steps.refl _) (a := b9) (argsL := []) (rest := [(.ref b9), (.int (0 : Int32)), (.ref alv)]) (lenOf pd_1 rfl) rfl (by show 2 * 0 + _ ≤ _; exact Nat.le_of_eq rfl) (hb hby d8_56) (fun _ _ => ⟨rfl, e9, (by decide : 1 + 0 ≤ _), (by decide : 6 + 0 ≤ _)⟩)
  dsimp only [Pt.U, Pt.locs, Pt.cells, Pt.slots] at X10 l10 y10 z10 st10 hQ10
  subst l10 y10 z10
  obtain ⟨rfl, N10q, e10⟩ := hQ10
  have N10 := Fr.app N0 N10q
  obtain ⟨cl_11, Ar_11, q_11, S_11, N_11, H_11, G_11⟩ := id c9_V_alv
  have hin_11 : ¬ ((0 : Int32) < 0 ∨ cl_11.slots.size ≤ ((0 : Int32)).toNatClampNeg) := inb_of S_11 ⟨by decide, by decide⟩
  obtain ⟨T12, h12, X12, e12, W12, st12⟩ := stR X10 hx hZ e10 Ar_11 (j := (0 : Int32)) hin_11 rfl (Sto.ofV Ar_11 q_11 Ov_alv (Ins.self A9)) (g := (mkF m 59 #[.val (.ref ar), .val .null, .val (.long (0 : Int64)), .second, .unset] [(.ref b9), (.int (0 : Int32)), (.ref alv)])) rfl rfl (hb hby d8_59)
  have V12 : Arv Z h12 alv kl (.object "com/example/kindgen/kindgen/core/document/RecordOrder$Level") (16 : Int32) [(.ref b9), .null, .null, .null, .null, .null, .null, .null, .null, .null, .null, .null, .null, .null, .null, .null] .null := Arv.set Ar_11 q_11 S_11 N_11 H_11 G_11 rfl W12 0 rfl (Nat.le_of_ble_eq_true rfl)
  have c12_E_ar := c9_E_ar.wr W12
  have c12_F_ar_outOfOrder := c9_F_ar_outOfOrder.other W12 (Or.inl ne_ar_alv)
  have c12_F_ar_held := c9_F_ar_held.other W12 (Or.inl ne_ar_alv)
  have c12_F_ar_levels := c9_F_ar_levels.other W12 (Or.inl ne_ar_alv)
  have c12_F_ar_longBytes := c9_F_ar_longBytes.other W12 (Or.inl ne_ar_alv)
  have c12_F_ar_depth := c9_F_ar_depth.other W12 (Or.inl ne_ar_alv)
  have c12_F_ar_started := c9_F_ar_started.other W12 (Or.inl ne_ar_alv)
  have c12_F_ar_heldCount := c9_F_ar_heldCount.other W12 (Or.inl ne_ar_alv)
  have c12_E_b9 := A9.wr W12
  have c12_F_b9_number := F9_number.other W12 (Or.inl (Ne.symm ne9_alv))
  have c12_F_b9_record := F9_record.other W12 (Or.inl (Ne.symm ne9_alv))
  have c12_F_b9_start := F9_start.other W12 (Or.inl (Ne.symm ne9_alv))
  have c12_F_b9_lastDeclared := F9_lastDeclared.other W12 (Or.inl (Ne.symm ne9_alv))
  have c12_F_b9_kept := F9_kept.other W12 (Or.inl (Ne.symm ne9_alv))
  have c12_F_b9_out := F9_out.other W12 (Or.inl (Ne.symm ne9_alv))
  have N12 := Fr.snoc X12 N10 g_alv
  have K12 : Keep h0 h12 [ar, alv] := K9.wr W12 (Or.inl (List.mem_of_getElem? (i := 1) rfl))
  obtain ⟨T13, X13, e13, st13⟩ := getF X12 hx hZ hown (host := "") (Or.inl (hw _ (List.mem_of_getElem? (i := 54) rfl))) Via.refl e12 c12_F_ar_levels (g := (mkF m 61 #[.val (.ref ar), .val .null, .val (.long (0 : Int64)), .second, .unset] [(.ref ar)])) rfl rfl (hb hby d8_61)
  obtain ⟨T14, X14, e14, st14⟩ := getF X13 hx hZ hown (host := "") (Or.inl (hw _ (List.mem_of_getElem? (i := 63) rfl))) Via.refl e13 c12_F_ar_depth (g := (mkF m 65 #[.val (.ref ar), .val .null, .val (.long (0 : Int64)), .second, .unset] [(.ref ar), (.ref alv)])) rfl rfl (hb hby d8_65)
  obtain ⟨cl_15, Ar_15, -, S_15, N_15, H_15, -⟩ := id V12
  have hin_15 : ¬ ((0 : Int32) < 0 ∨ cl_15.slots.size ≤ ((0 : Int32)).toNatClampNeg) := inb_of S_15 ⟨by decide, by decide⟩
  have hat_15 : cl_15.slots[((0 : Int32)).toNatClampNeg]? = some (.ref b9) := Has.at H_15 hin_15 rfl
  obtain ⟨T16, X16, e16, st16⟩ := getF X14 hx hZ hown (host := "") (Or.inl (hw _ (List.mem_of_getElem? (i := 72) rfl))) Via.refl e14 c12_F_ar_started (g := (mkF m 74 #[.val (.ref ar), .val .null, .val (.long (0 : Int64)), .second, .val (.ref b9)] [(.ref ar), (.ref b9)])) rfl rfl (hb hby d8_74)
  obtain ⟨T17, h17, X17, e17, W17, st17⟩ := own_putFR X16 hx hZ hown (hw _ (List.mem_of_getElem? (i := 74) rfl)) e16 c12_F_b9_number c12_E_b9 (hw _ (List.mem_of_getElem? (i := 75) rfl)) (hw _ (List.mem_of_getElem? (i := 65) rfl)) (ty := .int) (by decide) rfl rfl (g := (mkF m 77 #[.val (.ref ar), .val .null, .val (.long (0 : Int64)), .second, .val (.ref b9)] [(.int (0 : Int32)), (.ref b9)])) rfl rfl (hb hby d8_77)
  have c17_E_ar := c12_E_ar.wr W17
  have c17_F_ar_outOfOrder := c12_F_ar_outOfOrder.other W17 (Or.inl ne9_ar)
  have c17_F_ar_held := c12_F_ar_held.other W17 (Or.inl ne9_ar)
  have c17_F_ar_levels := c12_F_ar_levels.other W17 (Or.inl ne9_ar)
  have c17_F_ar_longBytes := c12_F_ar_longBytes.other W17 (Or.inl ne9_ar)
  have c17_F_ar_depth := c12_F_ar_depth.other W17 (Or.inl ne9_ar)
  have c17_F_ar_started := c12_F_ar_started.other W17 (Or.inl ne9_ar)
  have c17_F_ar_heldCount := c12_F_ar_heldCount.other W17 (Or.inl ne9_ar)
  have c17_V_alv := V12.other W17 ne9_alv
  have c17_E_b9 := c12_E_b9.wr W17
  have c17_F_b9_number := c12_F_b9_number.same W17
  have c17_F_b9_record := c12_F_b9_record.other W17 (Or.inr (slot_ne (Or.inl (hw _ (List.mem_of_getElem? (i := 77) rfl))) (Or.inl (hw _ (List.mem_of_getElem? (i := 75) rfl))) (by decide) (t := (.object "com/example/kindgen/kindgen/runtime/RecordShape")) (t' := .int) (by decide) (by decide)))
  have c17_F_b9_start := c12_F_b9_start.other W17 (Or.inr (slot_ne (Or.inl (hw _ (List.mem_of_getElem? (i := 79) rfl))) (Or.inl (hw _ (List.mem_of_getElem? (i := 75) rfl))) (by decide) (t := .long) (t' := .int) (by decide) (by decide)))
  have c17_F_b9_lastDeclared := c12_F_b9_lastDeclared.other W17 (Or.inr (slot_ne (Or.inl (hw _ (List.mem_of_getElem? (i := 81) rfl))) (Or.inl (hw _ (List.mem_of_getElem? (i := 75) rfl))) (by decide) (t := .int) (t' := .int) (by decide) (by decide)))
  have c17_F_b9_kept := c12_F_b9_kept.other W17 (Or.inr (slot_ne (Or.inl (hw _ (List.mem_of_getElem? (i := 83) rfl))) (Or.inl (hw _ (List.mem_of_getElem? (i := 75) rfl))) (by decide) (t := .boolean) (t' := .int) (by decide) (by decide)))
  have c17_F_b9_out := c12_F_b9_out.other W17 (Or.inr (slot_ne (Or.inl (hw _ (List.mem_of_getElem? (i := 85) rfl))) (Or.inl (hw _ (List.mem_of_getElem? (i := 75) rfl))) (by decide) (t := .boolean) (t' := .int) (by decide) (by decide)))
  have N17 := Fr.snoc X17 N12 g_b9
  have K17 : Keep h0 h17 [ar, alv] := K12.wr W17 (Or.inr sz_b9)
  obtain ⟨T18, h18, X18, e18, W18, st18⟩ := own_putFR X17 hx hZ hown (hw _ (List.mem_of_getElem? (i := 76) rfl)) e17 c17_F_b9_record c17_E_b9 (hw _ (List.mem_of_getElem? (i := 77) rfl)) (hw _ (List.mem_of_getElem? (i := 65) rfl)) (ty := (.object "com/example/kindgen/kindgen/runtime/RecordShape")) (by decide) rfl rfl (g := (mkF m 83 #[.val (.ref ar), .val .null, .val (.long (0 : Int64)), .second, .val (.ref b9)] [.null, (.ref b9)])) rfl rfl (hb hby d8_83)
  have c18_E_ar := c17_E_ar.wr W18
  have c18_F_ar_outOfOrder := c17_F_ar_outOfOrder.other W18 (Or.inl ne9_ar)
  have c18_F_ar_held := c17_F_ar_held.other W18 (Or.inl ne9_ar)
  have c18_F_ar_levels := c17_F_ar_levels.other W18 (Or.inl ne9_ar)
  have c18_F_ar_longBytes := c17_F_ar_longBytes.other W18 (Or.inl ne9_ar)
  have c18_F_ar_depth := c17_F_ar_depth.other W18 (Or.inl ne9_ar)
  have c18_F_ar_started := c17_F_ar_started.other W18 (Or.inl ne9_ar)
  have c18_F_ar_heldCount := c17_F_ar_heldCount.other W18 (Or.inl ne9_ar)
  have c18_V_alv := c17_V_alv.other W18 ne9_alv
  have c18_E_b9 := c17_E_b9.wr W18
  have c18_F_b9_number := c17_F_b9_number.other W18 (Or.inr (slot_ne (Or.inl (hw _ (List.mem_of_getElem? (i := 75) rfl))) (Or.inl (hw _ (List.mem_of_getElem? (i := 77) rfl))) (by decide) (t := .int) (t' := (.object "com/example/kindgen/kindgen/runtime/RecordShape")) (by decide) (by decide)))
  have c18_F_b9_record := c17_F_b9_record.same W18
  have c18_F_b9_start := c17_F_b9_start.other W18 (Or.inr (slot_ne (Or.inl (hw _ (List.mem_of_getElem? (i := 79) rfl))) (Or.inl (hw _ (List.mem_of_getElem? (i := 77) rfl))) (by decide) (t := .long) (t' := (.object "com/example/kindgen/kindgen/runtime/RecordShape")) (by decide) (by decide)))
  have c18_F_b9_lastDeclared := c17_F_b9_lastDeclared.other W18 (Or.inr (slot_ne (Or.inl (hw _ (List.mem_of_getElem? (i := 81) rfl))) (Or.inl (hw _ (List.mem_of_getElem? (i := 77) rfl))) (by decide) (t := .int) (t' := (.object "com/example/kindgen/kindgen/runtime/RecordShape")) (by decide) (by decide)))
  have c18_F_b9_kept := c17_F_b9_kept.other W18 (Or.inr (slot_ne (Or.inl (hw _ (List.mem_of_getElem? (i := 83) rfl))) (Or.inl (hw _ (List.mem_of_getElem? (i := 77) rfl))) (by decide) (t := .boolean) (t' := (.object "com/example/kindgen/kindgen/runtime/RecordShape")) (by decide) (by decide)))
  have c18_F_b9_out := c17_F_b9_out.other W18 (Or.inr (slot_ne (Or.inl (hw _ (List.mem_of_getElem? (i := 85) rfl))) (Or.inl (hw _ (List.mem_of_getElem? (i := 77) rfl))) (by decide) (t := .boolean) (t' := (.object "com/example/kindgen/kindgen/runtime/RecordShape")) (by decide) (by decide)))
  have N18 := Fr.snoc X18 N17 g_b9
  have K18 : Keep h0 h18 [ar, alv] := K17.wr W18 (Or.inr sz_b9)
  obtain ⟨T19, h19, X19, e19, W19, st19⟩ := own_putFR X18 hx hZ hown (hw _ (List.mem_of_getElem? (i := 78) rfl)) e18 c18_F_b9_start c18_E_b9 (hw _ (List.mem_of_getElem? (i := 79) rfl)) (hw _ (List.mem_of_getElem? (i := 65) rfl)) (ty := .long) (by decide) rfl rfl (g := (mkF m 89 #[.val (.ref ar), .val .null, .val (.long (0 : Int64)), .second, .val (.ref b9)] [(.long (0 : Int64)), (.ref b9)])) rfl rfl (hb hby d8_89)
  have c19_E_ar := c18_E_ar.wr W19
  have c19_F_ar_outOfOrder := c18_F_ar_outOfOrder.other W19 (Or.inl ne9_ar)
  have c19_F_ar_held := c18_F_ar_held.other W19 (Or.inl ne9_ar)
  have c19_F_ar_levels := c18_F_ar_levels.other W19 (Or.inl ne9_ar)
  have c19_F_ar_longBytes := c18_F_ar_longBytes.other W19 (Or.inl ne9_ar)
  have c19_F_ar_depth := c18_F_ar_depth.other W19 (Or.inl ne9_ar)
  have c19_F_ar_started := c18_F_ar_started.other W19 (Or.inl ne9_ar)
  have c19_F_ar_heldCount := c18_F_ar_heldCount.other W19 (Or.inl ne9_ar)
  have c19_V_alv := c18_V_alv.other W19 ne9_alv
  have c19_E_b9 := c18_E_b9.wr W19
  have c19_F_b9_number := c18_F_b9_number.other W19 (Or.inr (slot_ne (Or.inl (hw _ (List.mem_of_getElem? (i := 75) rfl))) (Or.inl (hw _ (List.mem_of_getElem? (i := 79) rfl))) (by decide) (t := .int) (t' := .long) (by decide) (by decide)))
  have c19_F_b9_record := c18_F_b9_record.other W19 (Or.inr (slot_ne (Or.inl (hw _ (List.mem_of_getElem? (i := 77) rfl))) (Or.inl (hw _ (List.mem_of_getElem? (i := 79) rfl))) (by decide) (t := (.object "com/example/kindgen/kindgen/runtime/RecordShape")) (t' := .long) (by decide) (by decide)))
  have c19_F_b9_start := c18_F_b9_start.same W19
  have c19_F_b9_lastDeclared := c18_F_b9_lastDeclared.other W19 (Or.inr (slot_ne (Or.inl (hw _ (List.mem_of_getElem? (i := 81) rfl))) (Or.inl (hw _ (List.mem_of_getElem? (i := 79) rfl))) (by decide) (t := .int) (t' := .long) (by decide) (by decide)))
  have c19_F_b9_kept := c18_F_b9_kept.other W19 (Or.inr (slot_ne (Or.inl (hw _ (List.mem_of_getElem? (i := 83) rfl))) (Or.inl (hw _ (List.mem_of_getElem? (i := 79) rfl))) (by decide) (t := .boolean) (t' := .long) (by decide) (by decide)))
  have c19_F_b9_out := c18_F_b9_out.other W19 (Or.inr (slot_ne (Or.inl (hw _ (List.mem_of_getElem? (i := 85) rfl))) (Or.inl (hw _ (List.mem_of_getElem? (i := 79) rfl))) (by decide) (t := .boolean) (t' := .long) (by decide) (by decide)))
  have N19 := Fr.snoc X19 N18 g_b9
  have K19 : Keep h0 h19 [ar, alv] := K18.wr W19 (Or.inr sz_b9)
  obtain ⟨T20, h20, X20, e20, W20, st20⟩ := own_putFR X19 hx hZ hown (hw _ (List.mem_of_getElem? (i := 80) rfl)) e19 c19_F_b9_lastDeclared c19_E_b9 (hw _ (List.mem_of_getElem? (i := 81) rfl)) (hw _ (List.mem_of_getElem? (i := 65) rfl)) (ty := .int) (by decide) rfl rfl (g := (mkF m 95 #[.val (.ref ar), .val .null, .val (.long (0 : Int64)), .second, .val (.ref b9)] [(.int (-1 : Int32)), (.ref b9)])) rfl rfl (hb hby d8_95)
  have c20_E_ar := c19_E_ar.wr W20
  have c20_F_ar_outOfOrder := c19_F_ar_outOfOrder.other W20 (Or.inl ne9_ar)
  have c20_F_ar_held := c19_F_ar_held.other W20 (Or.inl ne9_ar)
  have c20_F_ar_levels := c19_F_ar_levels.other W20 (Or.inl ne9_ar)
  have c20_F_ar_longBytes := c19_F_ar_longBytes.other W20 (Or.inl ne9_ar)
  have c20_F_ar_depth := c19_F_ar_depth.other W20 (Or.inl ne9_ar)
  have c20_F_ar_started := c19_F_ar_started.other W20 (Or.inl ne9_ar)
  have c20_F_ar_heldCount := c19_F_ar_heldCount.other W20 (Or.inl ne9_ar)
  have c20_V_alv := c19_V_alv.other W20 ne9_alv
  have c20_E_b9 := c19_E_b9.wr W20
  have c20_F_b9_number := c19_F_b9_number.other W20 (Or.inr (slot_ne (Or.inl (hw _ (List.mem_of_getElem? (i := 75) rfl))) (Or.inl (hw _ (List.mem_of_getElem? (i := 81) rfl))) (by decide) (t := .int) (t' := .int) (by decide) (by decide)))
  have c20_F_b9_record := c19_F_b9_record.other W20 (Or.inr (slot_ne (Or.inl (hw _ (List.mem_of_getElem? (i := 77) rfl))) (Or.inl (hw _ (List.mem_of_getElem? (i := 81) rfl))) (by decide) (t := (.object "com/example/kindgen/kindgen/runtime/RecordShape")) (t' := .int) (by decide) (by decide)))
  have c20_F_b9_start := c19_F_b9_start.other W20 (Or.inr (slot_ne (Or.inl (hw _ (List.mem_of_getElem? (i := 79) rfl))) (Or.inl (hw _ (List.mem_of_getElem? (i := 81) rfl))) (by decide) (t := .long) (t' := .int) (by decide) (by decide)))
  have c20_F_b9_lastDeclared := c19_F_b9_lastDeclared.same W20
  have c20_F_b9_kept := c19_F_b9_kept.other W20 (Or.inr (slot_ne (Or.inl (hw _ (List.mem_of_getElem? (i := 83) rfl))) (Or.inl (hw _ (List.mem_of_getElem? (i := 81) rfl))) (by decide) (t := .boolean) (t' := .int) (by decide) (by decide)))
  have c20_F_b9_out := c19_F_b9_out.other W20 (Or.inr (slot_ne (Or.inl (hw _ (List.mem_of_getElem? (i := 85) rfl))) (Or.inl (hw _ (List.mem_of_getElem? (i := 81) rfl))) (by decide) (t := .boolean) (t' := .int) (by decide) (by decide)))
  have N20 := Fr.snoc X20 N19 g_b9
  have K20 : Keep h0 h20 [ar, alv] := K19.wr W20 (Or.inr sz_b9)
  obtain ⟨T21, h21, X21, e21, W21, st21⟩ := own_putFR X20 hx hZ hown (hw _ (List.mem_of_getElem? (i := 82) rfl)) e20 c20_F_b9_kept c20_E_b9 (hw _ (List.mem_of_getElem? (i := 83) rfl)) (hw _ (List.mem_of_getElem? (i := 65) rfl)) (ty := .boolean) (by decide) rfl rfl (g := (mkF m 101 #[.val (.ref ar), .val .null, .val (.long (0 : Int64)), .second, .val (.ref b9)] [(.int (0 : Int32)), (.ref b9)])) rfl rfl (hb hby d8_101)
  have c21_E_ar := c20_E_ar.wr W21
  have c21_F_ar_outOfOrder := c20_F_ar_outOfOrder.other W21 (Or.inl ne9_ar)
  have c21_F_ar_held := c20_F_ar_held.other W21 (Or.inl ne9_ar)
  have c21_F_ar_levels := c20_F_ar_levels.other W21 (Or.inl ne9_ar)
  have c21_F_ar_longBytes := c20_F_ar_longBytes.other W21 (Or.inl ne9_ar)
  have c21_F_ar_depth := c20_F_ar_depth.other W21 (Or.inl ne9_ar)
  have c21_F_ar_started := c20_F_ar_started.other W21 (Or.inl ne9_ar)
  have c21_F_ar_heldCount := c20_F_ar_heldCount.other W21 (Or.inl ne9_ar)
  have c21_V_alv := c20_V_alv.other W21 ne9_alv
  have c21_E_b9 := c20_E_b9.wr W21
  have c21_F_b9_number := c20_F_b9_number.other W21 (Or.inr (slot_ne (Or.inl (hw _ (List.mem_of_getElem? (i := 75) rfl))) (Or.inl (hw _ (List.mem_of_getElem? (i := 83) rfl))) (by decide) (t := .int) (t' := .boolean) (by decide) (by decide)))
  have c21_F_b9_record := c20_F_b9_record.other W21 (Or.inr (slot_ne (Or.inl (hw _ (List.mem_of_getElem? (i := 77) rfl))) (Or.inl (hw _ (List.mem_of_getElem? (i := 83) rfl))) (by decide) (t := (.object "com/example/kindgen/kindgen/runtime/RecordShape")) (t' := .boolean) (by decide) (by decide)))
  have c21_F_b9_start := c20_F_b9_start.other W21 (Or.inr (slot_ne (Or.inl (hw _ (List.mem_of_getElem? (i := 79) rfl))) (Or.inl (hw _ (List.mem_of_getElem? (i := 83) rfl))) (by decide) (t := .long) (t' := .boolean) (by decide) (by decide)))
  have c21_F_b9_lastDeclared := c20_F_b9_lastDeclared.other W21 (Or.inr (slot_ne (Or.inl (hw _ (List.mem_of_getElem? (i := 81) rfl))) (Or.inl (hw _ (List.mem_of_getElem? (i := 83) rfl))) (by decide) (t := .int) (t' := .boolean) (by decide) (by decide)))
  have c21_F_b9_kept := c20_F_b9_kept.same W21
  have c21_F_b9_out := c20_F_b9_out.other W21 (Or.inr (slot_ne (Or.inl (hw _ (List.mem_of_getElem? (i := 85) rfl))) (Or.inl (hw _ (List.mem_of_getElem? (i := 83) rfl))) (by decide) (t := .boolean) (t' := .boolean) (by decide) (by decide)))
  have N21 := Fr.snoc X21 N20 g_b9
  have K21 : Keep h0 h21 [ar, alv] := K20.wr W21 (Or.inr sz_b9)
  obtain ⟨T22, h22, X22, e22, W22, st22⟩ := own_putFR X21 hx hZ hown (hw _ (List.mem_of_getElem? (i := 84) rfl)) e21 c21_F_b9_out c21_E_b9 (hw _ (List.mem_of_getElem? (i := 85) rfl)) (hw _ (List.mem_of_getElem? (i := 65) rfl)) (ty := .boolean) (by decide) rfl rfl (g := (mkF m 107 #[.val (.ref ar), .val .null, .val (.long (0 : Int64)), .second, .val (.ref b9)] [(.int (0 : Int32)), (.ref b9)])) rfl rfl (hb hby d8_107)
  have c22_E_ar := c21_E_ar.wr W22
  have c22_F_ar_outOfOrder := c21_F_ar_outOfOrder.other W22 (Or.inl ne9_ar)
  have c22_F_ar_held := c21_F_ar_held.other W22 (Or.inl ne9_ar)
  have c22_F_ar_levels := c21_F_ar_levels.other W22 (Or.inl ne9_ar)
  have c22_F_ar_longBytes := c21_F_ar_longBytes.other W22 (Or.inl ne9_ar)
  have c22_F_ar_depth := c21_F_ar_depth.other W22 (Or.inl ne9_ar)
  have c22_F_ar_started := c21_F_ar_started.other W22 (Or.inl ne9_ar)
  have c22_F_ar_heldCount := c21_F_ar_heldCount.other W22 (Or.inl ne9_ar)
  have c22_V_alv := c21_V_alv.other W22 ne9_alv
  have c22_E_b9 := c21_E_b9.wr W22
  have c22_F_b9_number := c21_F_b9_number.other W22 (Or.inr (slot_ne (Or.inl (hw _ (List.mem_of_getElem? (i := 75) rfl))) (Or.inl (hw _ (List.mem_of_getElem? (i := 85) rfl))) (by decide) (t := .int) (t' := .boolean) (by decide) (by decide)))
  have c22_F_b9_record := c21_F_b9_record.other W22 (Or.inr (slot_ne (Or.inl (hw _ (List.mem_of_getElem? (i := 77) rfl))) (Or.inl (hw _ (List.mem_of_getElem? (i := 85) rfl))) (by decide) (t := (.object "com/example/kindgen/kindgen/runtime/RecordShape")) (t' := .boolean) (by decide) (by decide)))
  have c22_F_b9_start := c21_F_b9_start.other W22 (Or.inr (slot_ne (Or.inl (hw _ (List.mem_of_getElem? (i := 79) rfl))) (Or.inl (hw _ (List.mem_of_getElem? (i := 85) rfl))) (by decide) (t := .long) (t' := .boolean) (by decide) (by decide)))
  have c22_F_b9_lastDeclared := c21_F_b9_lastDeclared.other W22 (Or.inr (slot_ne (Or.inl (hw _ (List.mem_of_getElem? (i := 81) rfl))) (Or.inl (hw _ (List.mem_of_getElem? (i := 85) rfl))) (by decide) (t := .int) (t' := .boolean) (by decide) (by decide)))
  have c22_F_b9_kept := c21_F_b9_kept.other W22 (Or.inr (slot_ne (Or.inl (hw _ (List.mem_of_getElem? (i := 83) rfl))) (Or.inl (hw _ (List.mem_of_getElem? (i := 85) rfl))) (by decide) (t := .boolean) (t' := .boolean) (by decide) (by decide)))
  have c22_F_b9_out := c21_F_b9_out.same W22
  have N22 := Fr.snoc X22 N21 g_b9
  have K22 : Keep h0 h22 [ar, alv] := K21.wr W22 (Or.inr sz_b9)
  obtain ⟨T23, X23, e23, st23⟩ := getF X22 hx hZ hown (host := "") (Or.inl (hw _ (List.mem_of_getElem? (i := 63) rfl))) Via.refl e22 c22_F_ar_depth (g := (mkF m 112 #[.val (.ref ar), .val .null, .val (.long (0 : Int64)), .second, .val (.ref b9)] [(.ref ar), (.ref ar)])) rfl rfl (hb hby d8_112)
  obtain ⟨T24, h24, X24, e24, W24, st24⟩ := putF X23 hx hZ hown (host := "") (Or.inl (hw _ (List.mem_of_getElem? (i := 63) rfl))) Via.refl e23 c22_F_ar_depth c22_E_ar (Or.inl (hw _ (List.mem_of_getElem? (i := 64) rfl))) (hw _ (List.mem_of_getElem? (i := 1) rfl)) (ty := .int) (by decide) rfl rfl (g := (mkF m 117 #[.val (.ref ar), .val .null, .val (.long (0 : Int64)), .second, .val (.ref b9)] [(.int (1 : Int32)), (.ref ar)])) rfl rfl (hb hby d8_117)
  have c24_E_ar := c22_E_ar.wr W24
  have c24_F_ar_outOfOrder := c22_F_ar_outOfOrder.other W24 (Or.inr (slot_ne (Or.inr (hw _ (List.mem_of_getElem? (i := 48) rfl))) (Or.inl (hw _ (List.mem_of_getElem? (i := 64) rfl))) (by decide) (t := (.object "java/util/Set")) (t' := .int) (by decide) (by decide)))
  have c24_F_ar_held := c22_F_ar_held.other W24 (Or.inr (slot_ne (Or.inl (hw _ (List.mem_of_getElem? (i := 51) rfl))) (Or.inl (hw _ (List.mem_of_getElem? (i := 64) rfl))) (by decide) (t := (.array .int)) (t' := .int) (by decide) (by decide)))
  have c24_F_ar_levels := c22_F_ar_levels.other W24 (Or.inr (slot_ne (Or.inl (hw _ (List.mem_of_getElem? (i := 55) rfl))) (Or.inl (hw _ (List.mem_of_getElem? (i := 64) rfl))) (by decide) (t := (.array (.object "com/example/kindgen/kindgen/core/document/RecordOrder$Level"))) (t' := .int) (by decide) (by decide)))
  have c24_F_ar_longBytes := c22_F_ar_longBytes.other W24 (Or.inr (slot_ne (Or.inr (hw _ (List.mem_of_getElem? (i := 57) rfl))) (Or.inl (hw _ (List.mem_of_getElem? (i := 64) rfl))) (by decide) (t := .long) (t' := .int) (by decide) (by decide)))
  have c24_F_ar_depth := c22_F_ar_depth.same W24
  have c24_F_ar_started := c22_F_ar_started.other W24 (Or.inr (slot_ne (Or.inl (hw _ (List.mem_of_getElem? (i := 73) rfl))) (Or.inl (hw _ (List.mem_of_getElem? (i := 64) rfl))) (by decide) (t := .int) (t' := .int) (by decide) (by decide)))
  have c24_F_ar_heldCount := c22_F_ar_heldCount.other W24 (Or.inr (slot_ne (Or.inl (hw _ (List.mem_of_getElem? (i := 165) rfl))) (Or.inl (hw _ (List.mem_of_getElem? (i := 64) rfl))) (by decide) (t := .int) (t' := .int) (by decide) (by decide)))
  have c24_V_alv := c22_V_alv.other W24 (Ne.symm ne_ar_alv)
  have c24_E_b9 := c22_E_b9.wr W24
  have c24_F_b9_number := c22_F_b9_number.other W24 (Or.inl (Ne.symm ne9_ar))
  have c24_F_b9_record := c22_F_b9_record.other W24 (Or.inl (Ne.symm ne9_ar))
  have c24_F_b9_start := c22_F_b9_start.other W24 (Or.inl (Ne.symm ne9_ar))
  have c24_F_b9_lastDeclared := c22_F_b9_lastDeclared.other W24 (Or.inl (Ne.symm ne9_ar))
  have c24_F_b9_kept := c22_F_b9_kept.other W24 (Or.inl (Ne.symm ne9_ar))
  have c24_F_b9_out := c22_F_b9_out.other W24 (Or.inl (Ne.symm ne9_ar))
  have N24 := Fr.snoc X24 N22 g_ar
  have K24 : Keep h0 h24 [ar, alv] := K22.wr W24 (Or.inl (List.mem_of_getElem? (i := 0) rfl))
  obtain ⟨T25, X25, e25, st25⟩ := getF X24 hx hZ hown (host := "") (Or.inl (hw _ (List.mem_of_getElem? (i := 72) rfl))) Via.refl e24 c24_F_ar_started (g := (mkF m 122 #[.val (.ref ar), .val .null, .val (.long (0 : Int64)), .second, .val (.ref b9)] [(.ref ar), (.ref ar)])) rfl rfl (hb hby d8_122)
  obtain ⟨T26, h26, X26, e26, W26, st26⟩ := putF X25 hx hZ hown (host := "") (Or.inl (hw _ (List.mem_of_getElem? (i := 72) rfl))) Via.refl e25 c24_F_ar_started c24_E_ar (Or.inl (hw _ (List.mem_of_getElem? (i := 73) rfl))) (hw _ (List.mem_of_getElem? (i := 1) rfl)) (ty := .int) (by decide) rfl rfl (g := (mkF m 127 #[.val (.ref ar), .val .null, .val (.long (0 : Int64)), .second, .val (.ref b9)] [(.int (1 : Int32)), (.ref ar)])) rfl rfl (hb hby d8_127)
  have c26_E_ar := c24_E_ar.wr W26
  have c26_F_ar_outOfOrder := c24_F_ar_outOfOrder.other W26 (Or.inr (slot_ne (Or.inr (hw _ (List.mem_of_getElem? (i := 48) rfl))) (Or.inl (hw _ (List.mem_of_getElem? (i := 73) rfl))) (by decide) (t := (.object "java/util/Set")) (t' := .int) (by decide) (by decide)))
  have c26_F_ar_held := c24_F_ar_held.other W26 (Or.inr (slot_ne (Or.inl (hw _ (List.mem_of_getElem? (i := 51) rfl))) (Or.inl (hw _ (List.mem_of_getElem? (i := 73) rfl))) (by decide) (t := (.array .int)) (t' := .int) (by decide) (by decide)))
  have c26_F_ar_levels := c24_F_ar_levels.other W26 (Or.inr (slot_ne (Or.inl (hw _ (List.mem_of_getElem? (i := 55) rfl))) (Or.inl (hw _ (List.mem_of_getElem? (i := 73) rfl))) (by decide) (t := (.array (.object "com/example/kindgen/kindgen/core/document/RecordOrder$Level"))) (t' := .int) (by decide) (by decide)))
  have c26_F_ar_longBytes := c24_F_ar_longBytes.other W26 (Or.inr (slot_ne (Or.inr (hw _ (List.mem_of_getElem? (i := 57) rfl))) (Or.inl (hw _ (List.mem_of_getElem? (i := 73) rfl))) (by decide) (t := .long) (t' := .int) (by decide) (by decide)))
  have c26_F_ar_depth := c24_F_ar_depth.other W26 (Or.inr (slot_ne (Or.inl (hw _ (List.mem_of_getElem? (i := 64) rfl))) (Or.inl (hw _ (List.mem_of_getElem? (i := 73) rfl))) (by decide) (t := .int) (t' := .int) (by decide) (by decide)))
  have c26_F_ar_started := c24_F_ar_started.same W26
  have c26_F_ar_heldCount := c24_F_ar_heldCount.other W26 (Or.inr (slot_ne (Or.inl (hw _ (List.mem_of_getElem? (i := 165) rfl))) (Or.inl (hw _ (List.mem_of_getElem? (i := 73) rfl))) (by decide) (t := .int) (t' := .int) (by decide) (by decide)))
  have c26_V_alv := c24_V_alv.other W26 (Ne.symm ne_ar_alv)
  have c26_E_b9 := c24_E_b9.wr W26
  have c26_F_b9_number := c24_F_b9_number.other W26 (Or.inl (Ne.symm ne9_ar))
  have c26_F_b9_record := c24_F_b9_record.other W26 (Or.inl (Ne.symm ne9_ar))
  have c26_F_b9_start := c24_F_b9_start.other W26 (Or.inl (Ne.symm ne9_ar))
  have c26_F_b9_lastDeclared := c24_F_b9_lastDeclared.other W26 (Or.inl (Ne.symm ne9_ar))
  have c26_F_b9_kept := c24_F_b9_kept.other W26 (Or.inl (Ne.symm ne9_ar))
  have c26_F_b9_out := c24_F_b9_out.other W26 (Or.inl (Ne.symm ne9_ar))
  have N26 := Fr.snoc X26 N24 g_ar
  have K26 : Keep h0 h26 [ar, alv] := K24.wr W26 (Or.inl (List.mem_of_getElem? (i := 0) rfl))
  obtain ⟨fs, hr, hrun, hended, hW, hsame⟩ := X26.leave (v := none) (fun _ => rfl)
  refine ⟨_, _, pre0 _ ?_, hrun, hended, _, _, rfl, ?_, ⟨_, rfl⟩, hW, hsame.mono (by decide) (by decide)⟩
  · show Steps p.tables e below (s₁.setTop (mkF m 0 #[.val (.ref ar), .val .null, .val (.long (0 : Int64)), .second, .unset] [])) _
    refine XS.aloadN X0.here hx rfl (hb hby d8_0) rfl rfl ?_
    show Steps p.tables e below (s₁.setTop (mkF m 1 #[.val (.ref ar), .val .null, .val (.long (0 : Int64)), .second, .unset] [(.ref ar)])) _
    refine st1 _ ?_
    refine XS.aloadN X1.here hx rfl (hb hby d8_4) rfl rfl ?_
    show Steps p.tables e below (T1.setTop (mkF m 5 #[.val (.ref ar), .val .null, .val (.long (0 : Int64)), .second, .unset] [(.ref ar), (.int (0 : Int32))])) _
    refine st2 _ ?_
    show Steps p.tables e below (T2.setTop (mkF m 8 #[.val (.ref ar), .val .null, .val (.long (0 : Int64)), .second, .unset] [(.ref alv), (.int (0 : Int32))])) _
    refine X2.arraylength hx (by rw [e2]; exact Ar_3.1) (State.isArrayOf_alike hZ.alike Ar_3.2.1) (g := (mkF m 8 #[.val (.ref ar), .val .null, .val (.long (0 : Int64)), .second, .unset] [(.ref alv), (.int (0 : Int32))])) rfl rfl (hb hby d8_8) _ ?_
    rw [len_of S_3 N_3]
    show Steps p.tables e below (T2.setTop (mkF m 9 #[.val (.ref ar), .val .null, .val (.long (0 : Int64)), .second, .unset] [(.int (16 : Int32)), (.int (0 : Int32))])) _
    refine XS.icmpYes X2.here hx rfl (pc0 := 9) (pc' := 32) rfl (hb hby d8_9) rfl (feq (by decide : ¬ ((0 : Int32) = (16 : Int32)))).2 (by decide) (by decide) ?_
    refine XS.aloadN X2.here hx rfl (hb hby d8_32) rfl rfl ?_
    show Steps p.tables e below (T2.setTop (mkF m 33 #[.val (.ref ar), .val .null, .val (.long (0 : Int64)), .second, .unset] [(.ref ar)])) _
    refine st4 _ ?_
    refine XS.aloadN X4.here hx rfl (hb hby d8_36) rfl rfl ?_
    show Steps p.tables e below (T4.setTop (mkF m 37 #[.val (.ref ar), .val .null, .val (.long (0 : Int64)), .second, .unset] [(.ref ar), (.ref alv)])) _
    refine st5 _ ?_
    show Steps p.tables e below (T5.setTop (mkF m 40 #[.val (.ref ar), .val .null, .val (.long (0 : Int64)), .second, .unset] [(.int (0 : Int32)), (.ref alv)])) _
    refine X5.aaload hx (j := (0 : Int32)) (v := .null) (by rw [e5]; exact Ar_6.1) (State.isArrayOf_alike hZ.alike Ar_6.2.1) rfl Ar_6.2.2 hin_6 hat_6 (g := (mkF m 40 #[.val (.ref ar), .val .null, .val (.long (0 : Int64)), .second, .unset] [(.int (0 : Int32)), (.ref alv)])) rfl rfl (hb hby d8_40) _ ?_
    show Steps p.tables e below (T5.setTop (mkF m 41 #[.val (.ref ar), .val .null, .val (.long (0 : Int64)), .second, .unset] [.null])) _
    refine XS.ifnonnullNo X5.here hx rfl (hb hby d8_41) rfl ?_
    refine XS.aloadN X5.here hx rfl (hb hby d8_44) rfl rfl ?_
    show Steps p.tables e below (T5.setTop (mkF m 45 #[.val (.ref ar), .val .null, .val (.long (0 : Int64)), .second, .unset] [(.ref ar)])) _
    refine st7 _ ?_
    refine XS.aloadN X7.here hx rfl (hb hby d8_48) rfl rfl ?_
    show Steps p.tables e below (T7.setTop (mkF m 49 #[.val (.ref ar), .val .null, .val (.long (0 : Int64)), .second, .unset] [(.ref ar), (.ref alv)])) _
    refine st8 _ ?_
    show Steps p.tables e below (T8.setTop (mkF m 52 #[.val (.ref ar), .val .null, .val (.long (0 : Int64)), .second, .unset] [(.int (0 : Int32)), (.ref alv)])) _
    refine st9 _ ?_
    show Steps p.tables e below (T9.setTop (mkF m 55 #[.val (.ref ar), .val .null, .val (.long (0 : Int64)), .second, .unset] [(.ref b9), (.int (0 : Int32)), (.ref alv)])) _
    refine XS.dup X9.here hx rfl (hb hby d8_55) rfl rfl ?_
    show Steps p.tables e below (T9.setTop (mkF m 56 #[.val (.ref ar), .val .null, .val (.long (0 : Int64)), .second, .unset] [(.ref b9), (.ref b9), (.int (0 : Int32)), (.ref alv)])) _
    refine st10.trans ?_
    show Steps p.tables e below (T10.setTop (mkF m 59 #[.val (.ref ar), .val .null, .val (.long (0 : Int64)), .second, .unset] [(.ref b9), (.int (0 : Int32)), (.ref alv)])) _
    refine st12 _ ?_
    refine XS.aloadN X12.here hx rfl (hb hby d8_60) rfl rfl ?_
    show Steps p.tables e below (T12.setTop (mkF m 61 #[.val (.ref ar), .val .null, .val (.long (0 : Int64)), .second, .unset] [(.ref ar)])) _
    refine st13 _ ?_
    refine XS.aloadN X13.here hx rfl (hb hby d8_64) rfl rfl ?_
    show Steps p.tables e below (T13.setTop (mkF m 65 #[.val (.ref ar), .val .null, .val (.long (0 : Int64)), .second, .unset] [(.ref ar), (.ref alv)])) _
    refine st14 _ ?_
    show Steps p.tables e below (T14.setTop (mkF m 68 #[.val (.ref ar), .val .null, .val (.long (0 : Int64)), .second, .unset] [(.int (0 : Int32)), (.ref alv)])) _
    refine X14.aaload hx (j := (0 : Int32)) (v := (.ref b9)) (by rw [e14]; exact Ar_15.1) (State.isArrayOf_alike hZ.alike Ar_15.2.1) rfl Ar_15.2.2 hin_15 hat_15 (g := (mkF m 68 #[.val (.ref ar), .val .null, .val (.long (0 : Int64)), .second, .unset] [(.int (0 : Int32)), (.ref alv)])) rfl rfl (hb hby d8_68) _ ?_
    show Steps p.tables e below (T14.setTop (mkF m 69 #[.val (.ref ar), .val .null, .val (.long (0 : Int64)), .second, .unset] [(.ref b9)])) _
    refine XS.astore X14.here hx rfl (hb hby d8_69) rfl rfl (l' := #[.val (.ref ar), .val .null, .val (.long (0 : Int64)), .second, .val (.ref b9)]) rfl ?_
    refine XS.aload X14.here hx rfl (hb hby d8_71) rfl rfl ?_
    refine XS.aloadN X14.here hx rfl (hb hby d8_73) rfl rfl ?_
    show Steps p.tables e below (T14.setTop (mkF m 74 #[.val (.ref ar), .val .null, .val (.long (0 : Int64)), .second, .val (.ref b9)] [(.ref ar), (.ref b9)])) _
    refine st16 _ ?_
    show Steps p.tables e below (T16.setTop (mkF m 77 #[.val (.ref ar), .val .null, .val (.long (0 : Int64)), .second, .val (.ref b9)] [(.int (0 : Int32)), (.ref b9)])) _
    refine st17 _ ?_
    refine XS.aload X17.here hx rfl (hb hby d8_80) rfl rfl ?_
    refine XS.aloadN X17.here hx rfl (hb hby d8_82) rfl rfl ?_
    show Steps p.tables e below (T17.setTop (mkF m 83 #[.val (.ref ar), .val .null, .val (.long (0 : Int64)), .second, .val (.ref b9)] [.null, (.ref b9)])) _
    refine st18 _ ?_
    refine XS.aload X18.here hx rfl (hb hby d8_86) rfl rfl ?_
    refine XS.lloadN X18.here hx rfl (hb hby d8_88) rfl ?_
    show Steps p.tables e below (T18.setTop (mkF m 89 #[.val (.ref ar), .val .null, .val (.long (0 : Int64)), .second, .val (.ref b9)] [(.long (0 : Int64)), (.ref b9)])) _
    refine st19 _ ?_
    refine XS.aload X19.here hx rfl (hb hby d8_92) rfl rfl ?_
    refine XS.iconst X19.here hx rfl (hb hby d8_94) ?_
    show Steps p.tables e below (T19.setTop (mkF m 95 #[.val (.ref ar), .val .null, .val (.long (0 : Int64)), .second, .val (.ref b9)] [(.int (-1 : Int32)), (.ref b9)])) _
    refine st20 _ ?_
    refine XS.aload X20.here hx rfl (hb hby d8_98) rfl rfl ?_
    refine XS.iconst X20.here hx rfl (hb hby d8_100) ?_
    show Steps p.tables e below (T20.setTop (mkF m 101 #[.val (.ref ar), .val .null, .val (.long (0 : Int64)), .second, .val (.ref b9)] [(.int (0 : Int32)), (.ref b9)])) _
    refine st21 _ ?_
    refine XS.aload X21.here hx rfl (hb hby d8_104) rfl rfl ?_
    refine XS.iconst X21.here hx rfl (hb hby d8_106) ?_
    show Steps p.tables e below (T21.setTop (mkF m 107 #[.val (.ref ar), .val .null, .val (.long (0 : Int64)), .second, .val (.ref b9)] [(.int (0 : Int32)), (.ref b9)])) _
    refine st22 _ ?_
    refine XS.aloadN X22.here hx rfl (hb hby d8_110) rfl rfl ?_
    show Steps p.tables e below (T22.setTop (mkF m 111 #[.val (.ref ar), .val .null, .val (.long (0 : Int64)), .second, .val (.ref b9)] [(.ref ar)])) _
    refine XS.dup X22.here hx rfl (hb hby d8_111) rfl rfl ?_
    show Steps p.tables e below (T22.setTop (mkF m 112 #[.val (.ref ar), .val .null, .val (.long (0 : Int64)), .second, .val (.ref b9)] [(.ref ar), (.ref ar)])) _
    refine st23 _ ?_
    refine XS.iconst X23.here hx rfl (hb hby d8_115) ?_
    refine XS.iadd X23.here hx rfl (hb hby d8_116) rfl ?_
    show Steps p.tables e below (T23.setTop (mkF m 117 #[.val (.ref ar), .val .null, .val (.long (0 : Int64)), .second, .val (.ref b9)] [(.int (1 : Int32)), (.ref ar)])) _
    refine st24 _ ?_
    refine XS.aloadN X24.here hx rfl (hb hby d8_120) rfl rfl ?_
    show Steps p.tables e below (T24.setTop (mkF m 121 #[.val (.ref ar), .val .null, .val (.long (0 : Int64)), .second, .val (.ref b9)] [(.ref ar)])) _
    refine XS.dup X24.here hx rfl (hb hby d8_121) rfl rfl ?_
    show Steps p.tables e below (T24.setTop (mkF m 122 #[.val (.ref ar), .val .null, .val (.long (0 : Int64)), .second, .val (.ref b9)] [(.ref ar), (.ref ar)])) _
    refine st25 _ ?_
    refine XS.iconst X25.here hx rfl (hb hby d8_125) ?_
    refine XS.iadd X25.here hx rfl (hb hby d8_126) rfl ?_
    show Steps p.tables e below (T25.setTop (mkF m 127 #[.val (.ref ar), .val .null, .val (.long (0 : Int64)), .second, .val (.ref b9)] [(.int (1 : Int32)), (.ref ar)])) _
    refine st26 _ ?_
    show Steps p.tables e below (T26.setTop (mkF m 130 #[.val (.ref ar), .val .null, .val (.long (0 : Int64)), .second, .val (.ref b9)] [])) _
    exact X26.returnOut hx Bd.returns (hb hby d8_130) hr
  · show Q8s0 Z ar aset ahd alv kl h0 n0 _ T26.heap _
    rw [e26]
    exact ⟨b9, rfl, N26, K26, c26_E_ar, c26_F_ar_outOfOrder, c26_F_ar_held, c26_F_ar_levels, c26_F_ar_longBytes, c26_F_ar_depth, c26_F_ar_started, c26_F_ar_heldCount, c26_V_alv, c26_E_b9, c26_F_b9_number, c26_F_b9_record, c26_F_b9_start, c26_F_b9_lastDeclared, c26_F_b9_kept, c26_F_b9_out, g_b9, sz_b9⟩
def Q8s1 (Z : State) (ar : Addr) (aset : Addr) (ahd : Addr) (alv : Addr) (kl : ClassId) (u0 : Value) (h0 : Heap) (n0 : Nat) (v : Option Value) (h : Heap) (L : List Loc) : Prop := ∃ (b9 : Addr), v = none ∧ Fr n0 L ∧ Keep h0 h [ar, alv] ∧ Exa Z h ar "com/example/kindgen/kindgen/core/document/RecordOrder" ∧ Fld Z h ar "com/example/kindgen/kindgen/core/document/RecordOrder" "outOfOrder" "Ljava/util/Set;" (.ref aset) ∧ Fld Z h ar "com/example/kindgen/kindgen/core/document/RecordOrder" "held" "[I" (.ref ahd) ∧ Fld Z h ar "com/example/kindgen/kindgen/core/document/RecordOrder" "levels" "[Lcom/example/kindgen/kindgen/core/document/RecordOrder$Level;" (.ref alv) ∧ Fld Z h ar "com/example/kindgen/kindgen/core/document/RecordOrder" "longBytes" "J" (.long (0 : Int64)) ∧ Fld Z h ar "com/example/kindgen/kindgen/core/document/RecordOrder" "depth" "I" (.int (2 : Int32)) ∧ Fld Z h ar "com/example/kindgen/kindgen/core/document/RecordOrder" "started" "I" (.int (2 : Int32)) ∧ Fld Z h ar "com/example/kindgen/kindgen/core/document/RecordOrder" "heldCount" "I" (.int (0 : Int32)) ∧ Arv Z h alv kl (.object "com/example/kindgen/kindgen/core/document/RecordOrder$Level") (16 : Int32) [u0, (.ref b9), .null, .null, .null, .null, .null, .null, .null, .null, .null, .null, .null, .null, .null, .null] .null ∧ Exa Z h b9 "com/example/kindgen/kindgen/core/document/RecordOrder$Level" ∧ Fld Z h b9 "com/example/kindgen/kindgen/core/document/RecordOrder$Level" "number" "I" (.int (1 : Int32)) ∧ Fld Z h b9 "com/example/kindgen/kindgen/core/document/RecordOrder$Level" "record" "Lcom/example/kindgen/kindgen/runtime/RecordShape;" .null ∧ Fld Z h b9 "com/example/kindgen/kindgen/core/document/RecordOrder$Level" "start" "J" (.long (0 : Int64)) ∧ Fld Z h b9 "com/example/kindgen/kindgen/core/document/RecordOrder$Level" "lastDeclared" "I" (.int (-1 : Int32)) ∧ Fld Z h b9 "com/example/kindgen/kindgen/core/document/RecordOrder$Level" "kept" "Z" (.int (0 : Int32)) ∧ Fld Z h b9 "com/example/kindgen/kindgen/core/document/RecordOrder$Level" "out" "Z" (.int (0 : Int32)) ∧ n0 ≤ b9 ∧ h0.size ≤ b9
set_option maxRecDepth 65536 in
set_option maxHeartbeats 40000000 in
theorem rm8s1 (l : Launch) (Z : State) (a0 : Array Value) (hw : ∀ d ∈ tables_1, d.before a0 Z = true) (ws : List Jvm.Cond) (ar : Addr) (aset : Addr) (ahd : Addr) (alv : Addr) (kl : ClassId) (u0 : Value) (h0 : Heap) (n0 : Nat) (Z0 : n0 ≤ h0.size) (E_ar : Exa Z h0 ar "com/example/kindgen/kindgen/core/document/RecordOrder") (F_ar_outOfOrder : Fld Z h0 ar "com/example/kindgen/kindgen/core/document/RecordOrder" "outOfOrder" "Ljava/util/Set;" (.ref aset)) (F_ar_held : Fld Z h0 ar "com/example/kindgen/kindgen/core/document/RecordOrder" "held" "[I" (.ref ahd)) (F_ar_levels : Fld Z h0 ar "com/example/kindgen/kindgen/core/document/RecordOrder" "levels" "[Lcom/example/kindgen/kindgen/core/document/RecordOrder$Level;" (.ref alv)) (F_ar_longBytes : Fld Z h0 ar "com/example/kindgen/kindgen/core/document/RecordOrder" "longBytes" "J" (.long (0 : Int64))) (F_ar_depth : Fld Z h0 ar "com/example/kindgen/kindgen/core/document/RecordOrder" "depth" "I" (.int (1 : Int32))) (F_ar_started : Fld Z h0 ar "com/example/kindgen/kindgen/core/document/RecordOrder" "started" "I" (.int (1 : Int32))) (F_ar_heldCount : Fld Z h0 ar "com/example/kindgen/kindgen/core/document/RecordOrder" "heldCount" "I" (.int (0 : Int32))) (V_alv : Arv Z h0 alv kl (.object "com/example/kindgen/kindgen/core/document/RecordOrder$Level") (16 : Int32) [u0, .null, .null, .null, .null, .null, .null, .null, .null, .null, .null, .null, .null, .null, .null, .null] .null) (Ov_alv : Ovr Z kl "com/example/kindgen/kindgen/core/document/RecordOrder$Level") (ne_ar_alv : ar ≠ alv) (g_ar : n0 ≤ ar) (g_alv : n0 ≤ alv) :
    MetFree l (⟨"com/example/kindgen/kindgen/core/document/RecordOrder", "start", "(Lcom/example/kindgen/kindgen/runtime/RecordShape;J)V"⟩ : MethodName) (head1 (Jvm.Cond.code (⟨"com/example/kindgen/kindgen/core/document/RecordOrder", "start", "(Lcom/example/kindgen/kindgen/runtime/RecordShape;J)V"⟩ : MethodName) prog_72_method_4_code 5 none :: ws) ({ frames := 2, cells := 1, slots := 6, locals := 28 } : Room)) (fun a U => a = #[(.ref ar), .null, (.long (0 : Int64))] ∧ Z.Warmed39 U.vm ∧ U.heap = h0) (fun _ _ _ _ _ => True) (fun _ U o U' => ∃ v L, o = .returned v ∧ Q8s1 Z ar aset ahd alv kl u0 h0 n0 v U'.heap L ∧ FrameEnd U o U' L ({ frames := 2, cells := 1, slots := 6, locals := 28 } : Room).cells ({ frames := 2, cells := 1, slots := 6, locals := 28 } : Room).slots) := by
  refine MetFree.of_bodySF (plainFor_of_name pn_8) hisR ?_
  intro p e s m args below meth c s₁ Bd hml0 hP hK
  obtain ⟨rfl, hZ, hh⟩ := hP
  have hx := Bd.exec
  have hby := Bd.bytes
  have hml : c.maxLocals = 5 := hml0
  have hown : s.vm.findClass "com/example/kindgen/kindgen/core/document/RecordOrder" = some m.cls := findClass_of_methodNamed Bd.named
  have X0 : Stand p l e ({ frames := 2, cells := 1, slots := 6, locals := 28 } : Room) s m #[(.ref ar), .null, (.long (0 : Int64))] below meth c s₁ [] 0 0 := Stand.of_body Bd
  have e0 : s₁.heap = h0 := by rw [← hh, Bd.state]; rfl
  have N0 := Fr.nil n0
  have pre0 : ∀ t, Steps p.tables e below (s₁.setTop (mkF m 0 #[.val (.ref ar), .val .null, .val (.long (0 : Int64)), .second, .unset] [])) t → Steps p.tables e below (s₁.setTop (entryFrame m #[(.ref ar), .null, (.long (0 : Int64))] 5)) t := fun t k => castTop (ef_8n m ar (0 : Int64)) k
  have K0 : Keep h0 h0 [ar, alv] := Keep.refl h0 _
  obtain ⟨T1, X1, e1, st1⟩ := getF X0 hx hZ hown (host := "") (Or.inl (hw _ (List.mem_of_getElem? (i := 63) rfl))) Via.refl e0 F_ar_depth (g := (mkF m 1 #[.val (.ref ar), .val .null, .val (.long (0 : Int64)), .second, .unset] [(.ref ar)])) rfl rfl (hb hby d8_1)
  obtain ⟨T2, X2, e2, st2⟩ := getF X1 hx hZ hown (host := "") (Or.inl (hw _ (List.mem_of_getElem? (i := 54) rfl))) Via.refl e1 F_ar_levels (g := (mkF m 5 #[.val (.ref ar), .val .null, .val (.long (0 : Int64)), .second, .unset] [(.ref ar), (.int (1 : Int32))])) rfl rfl (hb hby d8_5)
  obtain ⟨cl_3, Ar_3, -, S_3, N_3, -, -⟩ := id V_alv
  obtain ⟨T4, X4, e4, st4⟩ := getF X2 hx hZ hown (host := "") (Or.inl (hw _ (List.mem_of_getElem? (i := 54) rfl))) Via.refl e2 F_ar_levels (g := (mkF m 33 #[.val (.ref ar), .val .null, .val (.long (0 : Int64)), .second, .unset] [(.ref ar)])) rfl rfl (hb hby d8_33)
  obtain ⟨T5, X5, e5, st5⟩ := getF X4 hx hZ hown (host := "") (Or.inl (hw _ (List.mem_of_getElem? (i := 63) rfl))) Via.refl e4 F_ar_depth (g := (mkF m 37 #[.val (.ref ar), .val .null, .val (.long (0 : Int64)), .second, .unset] [(.ref ar), (.ref alv)])) rfl rfl (hb hby d8_37)
  obtain ⟨cl_6, Ar_6, -, S_6, N_6, H_6, -⟩ := id V_alv
  have hin_6 : ¬ ((1 : Int32) < 0 ∨ cl_6.slots.size ≤ ((1 : Int32)).toNatClampNeg) := inb_of S_6 ⟨by decide, by decide⟩
  have hat_6 : cl_6.slots[((1 : Int32)).toNatClampNeg]? = some .null := Has.at H_6 hin_6 rfl
  obtain ⟨T7, X7, e7, st7⟩ := getF X5 hx hZ hown (host := "") (Or.inl (hw _ (List.mem_of_getElem? (i := 54) rfl))) Via.refl e5 F_ar_levels (g := (mkF m 45 #[.val (.ref ar), .val .null, .val (.long (0 : Int64)), .second, .unset] [(.ref ar)])) rfl rfl (hb hby d8_45)
  obtain ⟨T8, X8, e8, st8⟩ := getF X7 hx hZ hown (host := "") (Or.inl (hw _ (List.mem_of_getElem? (i := 63) rfl))) Via.refl e7 F_ar_depth (g := (mkF m 49 #[.val (.ref ar), .val .null, .val (.long (0 : Int64)), .second, .unset] [(.ref ar), (.ref alv)])) rfl rfl (hb hby d8_49)
  obtain ⟨T9, h9, X9, e9, E9, A9, D9, -, st9⟩ := newO X8 hx hZ hown (hw _ (List.mem_of_getElem? (i := 52) rfl)) (hw _ (List.mem_of_getElem? (i := 65) rfl)) (hw _ (List.mem_of_getElem? (i := 66) rfl)) e8 (g := (mkF m 52 #[.val (.ref ar), .val .null, .val (.long (0 : Int64)), .second, .unset] [(.int (1 : Int32)), (.ref alv)])) rfl (hb hby d8_52) (by decide) (by decide)
  obtain ⟨b9, g9⟩ : ∃ z, z = h0.size := ⟨_, rfl⟩
  rw [← g9] at A9 D9 st9
  have ne9_ar : ar ≠ b9 := Nat.ne_of_lt (Nat.lt_of_lt_of_le E_ar.lt (Nat.le_of_eq g9.symm))
  have ne9_alv : alv ≠ b9 := Nat.ne_of_lt (Nat.lt_of_lt_of_le V_alv.lt (Nat.le_of_eq g9.symm))
  have g_b9 : n0 ≤ b9 := Nat.le_trans Z0 (Nat.le_of_eq g9.symm)
  have Z9 : n0 ≤ h9.size := Nat.le_trans Z0 E9.1
  have sz_b9 : h0.size ≤ b9 := Nat.le_trans K0.1 (Nat.le_of_eq g9.symm)
  have K9 : Keep h0 h9 [ar, alv] := K0.ext E9
  have c9_E_ar := E_ar.ext E9
  have c9_F_ar_outOfOrder := F_ar_outOfOrder.ext E9
  have c9_F_ar_held := F_ar_held.ext E9
  have c9_F_ar_levels := F_ar_levels.ext E9
  have c9_F_ar_longBytes := F_ar_longBytes.ext E9
  have c9_F_ar_depth := F_ar_depth.ext E9
  have c9_F_ar_started := F_ar_started.ext E9
  have c9_F_ar_heldCount := F_ar_heldCount.ext E9
  have c9_V_alv := V_alv.ext E9
  have F9_number : Fld Z h9 b9 "com/example/kindgen/kindgen/core/document/RecordOrder$Level" "number" "I" (.int (0 : Int32)) := D9 (Or.inl (hw _ (List.mem_of_getElem? (i := 75) rfl))) (ty := .int) (by decide)
  have F9_record : Fld Z h9 b9 "com/example/kindgen/kindgen/core/document/RecordOrder$Level" "record" "Lcom/example/kindgen/kindgen/runtime/RecordShape;" .null := D9 (Or.inl (hw _ (List.mem_of_getElem? (i := 77) rfl))) (ty := (.object "com/example/kindgen/kindgen/runtime/RecordShape")) (by decide)
  have F9_start : Fld Z h9 b9 "com/example/kindgen/kindgen/core/document/RecordOrder$Level" "start" "J" (.long (0 : Int64)) := D9 (Or.inl (hw _ (List.mem_of_getElem? (i := 79) rfl))) (ty := .long) (by decide)
  have F9_lastDeclared : Fld Z h9 b9 "com/example/kindgen/kindgen/core/document/RecordOrder$Level" "lastDeclared" "I" (.int (0 : Int32)) := D9 (Or.inl (hw _ (List.mem_of_getElem? (i := 81) rfl))) (ty := .int) (by decide)
  have F9_kept : Fld Z h9 b9 "com/example/kindgen/kindgen/core/document/RecordOrder$Level" "kept" "Z" (.int (0 : Int32)) := D9 (Or.inl (hw _ (List.mem_of_getElem? (i := 83) rfl))) (ty := .boolean) (by decide)
  have F9_out : Fld Z h9 b9 "com/example/kindgen/kindgen/core/document/RecordOrder$Level" "out" "Z" (.int (0 : Int32)) := D9 (Or.inl (hw _ (List.mem_of_getElem? (i := 85) rfl))) (ty := .boolean) (by decide)
  obtain ⟨_, _, ⟨T10, L10, k10, n10⟩, -, X10, ⟨Lc10, hQ10, l10, y10, z10⟩, st10⟩ := own_specialR X9 hx hZ (y := (⟨"com/example/kindgen/kindgen/core/document/RecordOrder$Level", "<init>", "()V"⟩ : MethodName)) rfl hown (hw _ (List.mem_of_getElem? (i := 67) rfl)) (hw _ (List.mem_of_getElem? (i := 68) rfl)) (hw _ (List.mem_of_getElem? (i := 69) rfl)) (by decide) (backOf (W := 3) (rm9 l Z a0 hw [] b9 h9 n0 Z9) hZ (hw _ (List.mem_of_getElem? (i := 69) rfl)) (hw _ (List.mem_of_getElem? (i := 66) rfl)) (by decide) (by decide)) (g := (mkF m 56 #[.val (.ref ar), .val .null, .val (.long (0 : Int64)), .second, .unset] [(.ref b9), (.ref b9), (.int (1 : Int32)), (.ref alv)])) rfl (by rw [hml]; rfl) (Steps.refl _) (a := b9) (argsL := []) (rest := [(.ref b9), (.int (1 : Int32)), (.ref alv)]) (lenOf pd_1 rfl) rfl (by show 2 * 0 + _ ≤ _; exact Nat.le_of_eq rfl) (hb hby d8_56) (fun _ _ => ⟨rfl, e9, (by decide : 1 + 0 ≤ _), (by decide : 6 + 0 ≤ _)⟩)
  dsimp only [Pt.U, Pt.locs, Pt.cells, Pt.slots] at X10 l10 y10 z10 st10 hQ10
  subst l10 y10 z10
  obtain ⟨rfl, N10q, e10⟩ := hQ10
  have N10 := Fr.app N0 N10q
  obtain ⟨cl_11, Ar_11, q_11, S_11, N_11, H_11, G_11⟩ := id c9_V_alv
  have hin_11 : ¬ ((1 : Int32) < 0 ∨ cl_11.slots.size ≤ ((1 : Int32)).toNatClampNeg) := inb_of S_11 ⟨by decide, by decide⟩
  obtain ⟨T12, h12, X12, e12, W12, st12⟩ := stR X10 hx hZ e10 Ar_11 (j := (1 : Int32)) hin_11 rfl (Sto.ofV Ar_11 q_11 Ov_alv (Ins.self A9)) (g := (mkF m 59 #[.val (.ref ar), .val .null, .val (.long (0 : Int64)), .second, .unset] [(.ref b9), (.int (1 : Int32)), (.ref alv)])) rfl rfl (hb hby d8_59)
  have V12 : Arv Z h12 alv kl (.object "com/example/kindgen/kindgen/core/document/RecordOrder$Level") (16 : Int32) [u0, (.ref b9), .null, .null, .null, .null, .null, .null, .null, .null, .null, .null, .null, .null, .null, .null] .null := Arv.set Ar_11 q_11 S_11 N_11 H_11 G_11 rfl W12 1 rfl (Nat.le_of_ble_eq_true rfl)
  have c12_E_ar := c9_E_ar.wr W12
  have c12_F_ar_outOfOrder := c9_F_ar_outOfOrder.other W12 (Or.inl ne_ar_alv)
  have c12_F_ar_held := c9_F_ar_held.other W12 (Or.inl ne_ar_alv)
  have c12_F_ar_levels := c9_F_ar_levels.other W12 (Or.inl ne_ar_alv)
  have c12_F_ar_longBytes := c9_F_ar_longBytes.other W12 (Or.inl ne_ar_alv)
  have c12_F_ar_depth := c9_F_ar_depth.other W12 (Or.inl ne_ar_alv)
  have c12_F_ar_started := c9_F_ar_started.other W12 (Or.inl ne_ar_alv)
  have c12_F_ar_heldCount := c9_F_ar_heldCount.other W12 (Or.inl ne_ar_alv)
  have c12_E_b9 := A9.wr W12
  have c12_F_b9_number := F9_number.other W12 (Or.inl (Ne.symm ne9_alv))
  have c12_F_b9_record := F9_record.other W12 (Or.inl (Ne.symm ne9_alv))
  have c12_F_b9_start := F9_start.other W12 (Or.inl (Ne.symm ne9_alv))
  have c12_F_b9_lastDeclared := F9_lastDeclared.other W12 (Or.inl (Ne.symm ne9_alv))
  have c12_F_b9_kept := F9_kept.other W12 (Or.inl (Ne.symm ne9_alv))
  have c12_F_b9_out := F9_out.other W12 (Or.inl (Ne.symm ne9_alv))
  have N12 := Fr.snoc X12 N10 g_alv
  have K12 : Keep h0 h12 [ar, alv] := K9.wr W12 (Or.inl (List.mem_of_getElem? (i := 1) rfl))
  obtain ⟨T13, X13, e13, st13⟩ := getF X12 hx hZ hown (host := "") (Or.inl (hw _ (List.mem_of_getElem? (i := 54) rfl))) Via.refl e12 c12_F_ar_levels (g := (mkF m 61 #[.val (.ref ar), .val .null, .val (.long (0 : Int64)), .second, .unset] [(.ref ar)])) rfl rfl (hb hby d8_61)
  obtain ⟨T14, X14, e14, st14⟩ := getF X13 hx hZ hown (host := "") (Or.inl (hw _ (List.mem_of_getElem? (i := 63) rfl))) Via.refl e13 c12_F_ar_depth (g := (mkF m 65 #[.val (.ref ar), .val .null, .val (.long (0 : Int64)), .second, .unset] [(.ref ar), (.ref alv)])) rfl rfl (hb hby d8_65)
  obtain ⟨cl_15, Ar_15, -, S_15, N_15, H_15, -⟩ := id V12
  have hin_15 : ¬ ((1 : Int32) < 0 ∨ cl_15.slots.size ≤ ((1 : Int32)).toNatClampNeg) := inb_of S_15 ⟨by decide, by decide⟩
  have hat_15 : cl_15.slots[((1 : Int32)).toNatClampNeg]? = some (.ref b9) := Has.at H_15 hin_15 rfl
  obtain ⟨T16, X16, e16, st16⟩ := getF X14 hx hZ hown (host := "") (Or.inl (hw _ (List.mem_of_getElem? (i := 72) rfl))) Via.refl e14 c12_F_ar_started (g := (mkF m 74 #[.val (.ref ar), .val .null, .val (.long (0 : Int64)), .second, .val (.ref b9)] [(.ref ar), (.ref b9)])) rfl rfl (hb hby d8_74)
  obtain ⟨T17, h17, X17, e17, W17, st17⟩ := own_putFR X16 hx hZ hown (hw _ (List.mem_of_getElem? (i := 74) rfl)) e16 c12_F_b9_number c12_E_b9 (hw _ (List.mem_of_getElem? (i := 75) rfl)) (hw _ (List.mem_of_getElem? (i := 65) rfl)) (ty := .int) (by decide) rfl rfl (g := (mkF m 77 #[.val (.ref ar), .val .null, .val (.long (0 : Int64)), .second, .val (.ref b9)] [(.int (1 : Int32)), (.ref b9)])) rfl rfl (hb hby d8_77)
  have c17_E_ar := c12_E_ar.wr W17
  have c17_F_ar_outOfOrder := c12_F_ar_outOfOrder.other W17 (Or.inl ne9_ar)
  have c17_F_ar_held := c12_F_ar_held.other W17 (Or.inl ne9_ar)
  have c17_F_ar_levels := c12_F_ar_levels.other W17 (Or.inl ne9_ar)
  have c17_F_ar_longBytes := c12_F_ar_longBytes.other W17 (Or.inl ne9_ar)
  have c17_F_ar_depth := c12_F_ar_depth.other W17 (Or.inl ne9_ar)
  have c17_F_ar_started := c12_F_ar_started.other W17 (Or.inl ne9_ar)
  have c17_F_ar_heldCount := c12_F_ar_heldCount.other W17 (Or.inl ne9_ar)
  have c17_V_alv := V12.other W17 ne9_alv
  have c17_E_b9 := c12_E_b9.wr W17
  have c17_F_b9_number := c12_F_b9_number.same W17
  have c17_F_b9_record := c12_F_b9_record.other W17 (Or.inr (slot_ne (Or.inl (hw _ (List.mem_of_getElem? (i := 77) rfl))) (Or.inl (hw _ (List.mem_of_getElem? (i := 75) rfl))) (by decide) (t := (.object "com/example/kindgen/kindgen/runtime/RecordShape")) (t' := .int) (by decide) (by decide)))
  have c17_F_b9_start := c12_F_b9_start.other W17 (Or.inr (slot_ne (Or.inl (hw _ (List.mem_of_getElem? (i := 79) rfl))) (Or.inl (hw _ (List.mem_of_getElem? (i := 75) rfl))) (by decide) (t := .long) (t' := .int) (by decide) (by decide)))
  have c17_F_b9_lastDeclared := c12_F_b9_lastDeclared.other W17 (Or.inr (slot_ne (Or.inl (hw _ (List.mem_of_getElem? (i := 81) rfl))) (Or.inl (hw _ (List.mem_of_getElem? (i := 75) rfl))) (by decide) (t := .int) (t' := .int) (by decide) (by decide)))
  have c17_F_b9_kept := c12_F_b9_kept.other W17 (Or.inr (slot_ne (Or.inl (hw _ (List.mem_of_getElem? (i := 83) rfl))) (Or.inl (hw _ (List.mem_of_getElem? (i := 75) rfl))) (by decide) (t := .boolean) (t' := .int) (by decide) (by decide)))
  have c17_F_b9_out := c12_F_b9_out.other W17 (Or.inr (slot_ne (Or.inl (hw _ (List.mem_of_getElem? (i := 85) rfl))) (Or.inl (hw _ (List.mem_of_getElem? (i := 75) rfl))) (by decide) (t := .boolean) (t' := .int) (by decide) (by decide)))
  have N17 := Fr.snoc X17 N12 g_b9
  have K17 : Keep h0 h17 [ar, alv] := K12.wr W17 (Or.inr sz_b9)
  obtain ⟨T18, h18, X18, e18, W18, st18⟩ := own_putFR X17 hx hZ hown (hw _ (List.mem_of_getElem? (i := 76) rfl)) e17 c17_F_b9_record c17_E_b9 (hw _ (List.mem_of_getElem? (i := 77) rfl)) (hw _ (List.mem_of_getElem? (i := 65) rfl)) (ty := (.object "com/example/kindgen/kindgen/runtime/RecordShape")) (by decide) rfl rfl (g := (mkF m 83 #[.val (.ref ar), .val .null, .val (.long (0 : Int64)), .second, .val (.ref b9)] [.null, (.ref b9)])) rfl rfl (hb hby d8_83)
  have c18_E_ar := c17_E_ar.wr W18
  have c18_F_ar_outOfOrder := c17_F_ar_outOfOrder.other W18 (Or.inl ne9_ar)
  have c18_F_ar_held := c17_F_ar_held.other W18 (Or.inl ne9_ar)
  have c18_F_ar_levels := c17_F_ar_levels.other W18 (Or.inl ne9_ar)
  have c18_F_ar_longBytes := c17_F_ar_longBytes.other W18 (Or.inl ne9_ar)
  have c18_F_ar_depth := c17_F_ar_depth.other W18 (Or.inl ne9_ar)
  have c18_F_ar_started := c17_F_ar_started.other W18 (Or.inl ne9_ar)
  have c18_F_ar_heldCount := c17_F_ar_heldCount.other W18 (Or.inl ne9_ar)
  have c18_V_alv := c17_V_alv.other W18 ne9_alv
  have c18_E_b9 := c17_E_b9.wr W18
  have c18_F_b9_number := c17_F_b9_number.other W18 (Or.inr (slot_ne (Or.inl (hw _ (List.mem_of_getElem? (i := 75) rfl))) (Or.inl (hw _ (List.mem_of_getElem? (i := 77) rfl))) (by decide) (t := .int) (t' := (.object "com/example/kindgen/kindgen/runtime/RecordShape")) (by decide) (by decide)))
  have c18_F_b9_record := c17_F_b9_record.same W18
  have c18_F_b9_start := c17_F_b9_start.other W18 (Or.inr (slot_ne (Or.inl (hw _ (List.mem_of_getElem? (i := 79) rfl))) (Or.inl (hw _ (List.mem_of_getElem? (i := 77) rfl))) (by decide) (t := .long) (t' := (.object "com/example/kindgen/kindgen/runtime/RecordShape")) (by decide) (by decide)))
  have c18_F_b9_lastDeclared := c17_F_b9_lastDeclared.other W18 (Or.inr (slot_ne (Or.inl (hw _ (List.mem_of_getElem? (i := 81) rfl))) (Or.inl (hw _ (List.mem_of_getElem? (i := 77) rfl))) (by decide) (t := .int) (t' := (.object "com/example/kindgen/kindgen/runtime/RecordShape")) (by decide) (by decide)))
  have c18_F_b9_kept := c17_F_b9_kept.other W18 (Or.inr (slot_ne (Or.inl (hw _ (List.mem_of_getElem? (i := 83) rfl))) (Or.inl (hw _ (List.mem_of_getElem? (i := 77) rfl))) (by decide) (t := .boolean) (t' := (.object "com/example/kindgen/kindgen/runtime/RecordShape")) (by decide) (by decide)))
  have c18_F_b9_out := c17_F_b9_out.other W18 (Or.inr (slot_ne (Or.inl (hw _ (List.mem_of_getElem? (i := 85) rfl))) (Or.inl (hw _ (List.mem_of_getElem? (i := 77) rfl))) (by decide) (t := .boolean) (t' := (.object "com/example/kindgen/kindgen/runtime/RecordShape")) (by decide) (by decide)))
  have N18 := Fr.snoc X18 N17 g_b9
  have K18 : Keep h0 h18 [ar, alv] := K17.wr W18 (Or.inr sz_b9)
  obtain ⟨T19, h19, X19, e19, W19, st19⟩ := own_putFR X18 hx hZ hown (hw _ (List.mem_of_getElem? (i := 78) rfl)) e18 c18_F_b9_start c18_E_b9 (hw _ (List.mem_of_getElem? (i := 79) rfl)) (hw _ (List.mem_of_getElem? (i := 65) rfl)) (ty := .long) (by decide) rfl rfl (g := (mkF m 89 #[.val (.ref ar), .val .null, .val (.long (0 : Int64)), .second, .val (.ref b9)] [(.long (0 : Int64)), (.ref b9)])) rfl rfl (hb hby d8_89)
  have c19_E_ar := c18_E_ar.wr W19
  have c19_F_ar_outOfOrder := c18_F_ar_outOfOrder.other W19 (Or.inl ne9_ar)
  have c19_F_ar_held := c18_F_ar_held.other W19 (Or.inl ne9_ar)
  have c19_F_ar_levels := c18_F_ar_levels.other W19 (Or.inl ne9_ar)
  have c19_F_ar_longBytes := c18_F_ar_longBytes.other W19 (Or.inl ne9_ar)
  have c19_F_ar_depth := c18_F_ar_depth.other W19 (Or.inl ne9_ar)
  have c19_F_ar_started := c18_F_ar_started.other W19 (Or.inl ne9_ar)
  have c19_F_ar_heldCount := c18_F_ar_heldCount.other W19 (Or.inl ne9_ar)
  have c19_V_alv := c18_V_alv.other W19 ne9_alv
  have c19_E_b9 := c18_E_b9.wr W19
  have c19_F_b9_number := c18_F_b9_number.other W19 (Or.inr (slot_ne (Or.inl (hw _ (List.mem_of_getElem? (i := 75) rfl))) (Or.inl (hw _ (List.mem_of_getElem? (i := 79) rfl))) (by decide) (t := .int) (t' := .long) (by decide) (by decide)))
  have c19_F_b9_record := c18_F_b9_record.other W19 (Or.inr (slot_ne (Or.inl (hw _ (List.mem_of_getElem? (i := 77) rfl))) (Or.inl (hw _ (List.mem_of_getElem? (i := 79) rfl))) (by decide) (t := (.object "com/example/kindgen/kindgen/runtime/RecordShape")) (t' := .long) (by decide) (by decide)))
  have c19_F_b9_start := c18_F_b9_start.same W19
  have c19_F_b9_lastDeclared := c18_F_b9_lastDeclared.other W19 (Or.inr (slot_ne (Or.inl (hw _ (List.mem_of_getElem? (i := 81) rfl))) (Or.inl (hw _ (List.mem_of_getElem? (i := 79) rfl))) (by decide) (t := .int) (t' := .long) (by decide) (by decide)))
  have c19_F_b9_kept := c18_F_b9_kept.other W19 (Or.inr (slot_ne (Or.inl (hw _ (List.mem_of_getElem? (i := 83) rfl))) (Or.inl (hw _ (List.mem_of_getElem? (i := 79) rfl))) (by decide) (t := .boolean) (t' := .long) (by decide) (by decide)))
  have c19_F_b9_out := c18_F_b9_out.other W19 (Or.inr (slot_ne (Or.inl (hw _ (List.mem_of_getElem? (i := 85) rfl))) (Or.inl (hw _ (List.mem_of_getElem? (i := 79) rfl))) (by decide) (t := .boolean) (t' := .long) (by decide) (by decide)))
  have N19 := Fr.snoc X19 N18 g_b9
  have K19 : Keep h0 h19 [ar, alv] := K18.wr W19 (Or.inr sz_b9)
  obtain ⟨T20, h20, X20, e20, W20, st20⟩ := own_putFR X19 hx hZ hown (hw _ (List.mem_of_getElem? (i := 80) rfl)) e19 c19_F_b9_lastDeclared c19_E_b9 (hw _ (List.mem_of_getElem? (i := 81) rfl)) (hw _ (List.mem_of_getElem? (i := 65) rfl)) (ty := .int) (by decide) rfl rfl (g := (mkF m 95 #[.val (.ref ar), .val .null, .val (.long (0 : Int64)), .second, .val (.ref b9)] [(.int (-1 : Int32)), (.ref b9)])) rfl rfl (hb hby d8_95)
  have c20_E_ar := c19_E_ar.wr W20
  have c20_F_ar_outOfOrder := c19_F_ar_outOfOrder.other W20 (Or.inl ne9_ar)
  have c20_F_ar_held := c19_F_ar_held.other W20 (Or.inl ne9_ar)
  have c20_F_ar_levels := c19_F_ar_levels.other W20 (Or.inl ne9_ar)
  have c20_F_ar_longBytes := c19_F_ar_longBytes.other W20 (Or.inl ne9_ar)
  have c20_F_ar_depth := c19_F_ar_depth.other W20 (Or.inl ne9_ar)
  have c20_F_ar_started := c19_F_ar_started.other W20 (Or.inl ne9_ar)
  have c20_F_ar_heldCount := c19_F_ar_heldCount.other W20 (Or.inl ne9_ar)
  have c20_V_alv := c19_V_alv.other W20 ne9_alv
  have c20_E_b9 := c19_E_b9.wr W20
  have c20_F_b9_number := c19_F_b9_number.other W20 (Or.inr (slot_ne (Or.inl (hw _ (List.mem_of_getElem? (i := 75) rfl))) (Or.inl (hw _ (List.mem_of_getElem? (i := 81) rfl))) (by decide) (t := .int) (t' := .int) (by decide) (by decide)))
  have c20_F_b9_record := c19_F_b9_record.other W20 (Or.inr (slot_ne (Or.inl (hw _ (List.mem_of_getElem? (i := 77) rfl))) (Or.inl (hw _ (List.mem_of_getElem? (i := 81) rfl))) (by decide) (t := (.object "com/example/kindgen/kindgen/runtime/RecordShape")) (t' := .int) (by decide) (by decide)))
  have c20_F_b9_start := c19_F_b9_start.other W20 (Or.inr (slot_ne (Or.inl (hw _ (List.mem_of_getElem? (i := 79) rfl))) (Or.inl (hw _ (List.mem_of_getElem? (i := 81) rfl))) (by decide) (t := .long) (t' := .int) (by decide) (by decide)))
  have c20_F_b9_lastDeclared := c19_F_b9_lastDeclared.same W20
  have c20_F_b9_kept := c19_F_b9_kept.other W20 (Or.inr (slot_ne (Or.inl (hw _ (List.mem_of_getElem? (i := 83) rfl))) (Or.inl (hw _ (List.mem_of_getElem? (i := 81) rfl))) (by decide) (t := .boolean) (t' := .int) (by decide) (by decide)))
  have c20_F_b9_out := c19_F_b9_out.other W20 (Or.inr (slot_ne (Or.inl (hw _ (List.mem_of_getElem? (i := 85) rfl))) (Or.inl (hw _ (List.mem_of_getElem? (i := 81) rfl))) (by decide) (t := .boolean) (t' := .int) (by decide) (by decide)))
  have N20 := Fr.snoc X20 N19 g_b9
  have K20 : Keep h0 h20 [ar, alv] := K19.wr W20 (Or.inr sz_b9)
  obtain ⟨T21, h21, X21, e21, W21, st21⟩ := own_putFR X20 hx hZ hown (hw _ (List.mem_of_getElem? (i := 82) rfl)) e20 c20_F_b9_kept c20_E_b9 (hw _ (List.mem_of_getElem? (i := 83) rfl)) (hw _ (List.mem_of_getElem? (i := 65) rfl)) (ty := .boolean) (by decide) rfl rfl (g := (mkF m 101 #[.val (.ref ar), .val .null, .val (.long (0 : Int64)), .second, .val (.ref b9)] [(.int (0 : Int32)), (.ref b9)])) rfl rfl (hb hby d8_101)
  have c21_E_ar := c20_E_ar.wr W21
  have c21_F_ar_outOfOrder := c20_F_ar_outOfOrder.other W21 (Or.inl ne9_ar)
  have c21_F_ar_held := c20_F_ar_held.other W21 (Or.inl ne9_ar)
  have c21_F_ar_levels := c20_F_ar_levels.other W21 (Or.inl ne9_ar)
  have c21_F_ar_longBytes := c20_F_ar_longBytes.other W21 (Or.inl ne9_ar)
  have c21_F_ar_depth := c20_F_ar_depth.other W21 (Or.inl ne9_ar)
  have c21_F_ar_started := c20_F_ar_started.other W21 (Or.inl ne9_ar)
  have c21_F_ar_heldCount := c20_F_ar_heldCount.other W21 (Or.inl ne9_ar)
  have c21_V_alv := c20_V_alv.other W21 ne9_alv
  have c21_E_b9 := c20_E_b9.wr W21
  have c21_F_b9_number := c20_F_b9_number.other W21 (Or.inr (slot_ne (Or.inl (hw _ (List.mem_of_getElem? (i := 75) rfl))) (Or.inl (hw _ (List.mem_of_getElem? (i := 83) rfl))) (by decide) (t := .int) (t' := .boolean) (by decide) (by decide)))
  have c21_F_b9_record := c20_F_b9_record.other W21 (Or.inr (slot_ne (Or.inl (hw _ (List.mem_of_getElem? (i := 77) rfl))) (Or.inl (hw _ (List.mem_of_getElem? (i := 83) rfl))) (by decide) (t := (.object "com/example/kindgen/kindgen/runtime/RecordShape")) (t' := .boolean) (by decide) (by decide)))
  have c21_F_b9_start := c20_F_b9_start.other W21 (Or.inr (slot_ne (Or.inl (hw _ (List.mem_of_getElem? (i := 79) rfl))) (Or.inl (hw _ (List.mem_of_getElem? (i := 83) rfl))) (by decide) (t := .long) (t' := .boolean) (by decide) (by decide)))
  have c21_F_b9_lastDeclared := c20_F_b9_lastDeclared.other W21 (Or.inr (slot_ne (Or.inl (hw _ (List.mem_of_getElem? (i := 81) rfl))) (Or.inl (hw _ (List.mem_of_getElem? (i := 83) rfl))) (by decide) (t := .int) (t' := .boolean) (by decide) (by decide)))
  have c21_F_b9_kept := c20_F_b9_kept.same W21
  have c21_F_b9_out := c20_F_b9_out.other W21 (Or.inr (slot_ne (Or.inl (hw _ (List.mem_of_getElem? (i := 85) rfl))) (Or.inl (hw _ (List.mem_of_getElem? (i := 83) rfl))) (by decide) (t := .boolean) (t' := .boolean) (by decide) (by decide)))
  have N21 := Fr.snoc X21 N20 g_b9
  have K21 : Keep h0 h21 [ar, alv] := K20.wr W21 (Or.inr sz_b9)
  obtain ⟨T22, h22, X22, e22, W22, st22⟩ := own_putFR X21 hx hZ hown (hw _ (List.mem_of_getElem? (i := 84) rfl)) e21 c21_F_b9_out c21_E_b9 (hw _ (List.mem_of_getElem? (i := 85) rfl)) (hw _ (List.mem_of_getElem? (i := 65) rfl)) (ty := .boolean) (by decide) rfl rfl (g := (mkF m 107 #[.val (.ref ar), .val .null, .val (.long (0 : Int64)), .second, .val (.ref b9)] [(.int (0 : Int32)), (.ref b9)])) rfl rfl (hb hby d8_107)
  have c22_E_ar := c21_E_ar.wr W22
  have c22_F_ar_outOfOrder := c21_F_ar_outOfOrder.other W22 (Or.inl ne9_ar)
  have c22_F_ar_held := c21_F_ar_held.other W22 (Or.inl ne9_ar)
  have c22_F_ar_levels := c21_F_ar_levels.other W22 (Or.inl ne9_ar)
  have c22_F_ar_longBytes := c21_F_ar_longBytes.other W22 (Or.inl ne9_ar)
  have c22_F_ar_depth := c21_F_ar_depth.other W22 (Or.inl ne9_ar)
  have c22_F_ar_started := c21_F_ar_started.other W22 (Or.inl ne9_ar)
  have c22_F_ar_heldCount := c21_F_ar_heldCount.other W22 (Or.inl ne9_ar)
  have c22_V_alv := c21_V_alv.other W22 ne9_alv
  have c22_E_b9 := c21_E_b9.wr W22
  have c22_F_b9_number := c21_F_b9_number.other W22 (Or.inr (slot_ne (Or.inl (hw _ (List.mem_of_getElem? (i := 75) rfl))) (Or.inl (hw _ (List.mem_of_getElem? (i := 85) rfl))) (by decide) (t := .int) (t' := .boolean) (by decide) (by decide)))
  have c22_F_b9_record := c21_F_b9_record.other W22 (Or.inr (slot_ne (Or.inl (hw _ (List.mem_of_getElem? (i := 77) rfl))) (Or.inl (hw _ (List.mem_of_getElem? (i := 85) rfl))) (by decide) (t := (.object "com/example/kindgen/kindgen/runtime/RecordShape")) (t' := .boolean) (by decide) (by decide)))
  have c22_F_b9_start := c21_F_b9_start.other W22 (Or.inr (slot_ne (Or.inl (hw _ (List.mem_of_getElem? (i := 79) rfl))) (Or.inl (hw _ (List.mem_of_getElem? (i := 85) rfl))) (by decide) (t := .long) (t' := .boolean) (by decide) (by decide)))
  have c22_F_b9_lastDeclared := c21_F_b9_lastDeclared.other W22 (Or.inr (slot_ne (Or.inl (hw _ (List.mem_of_getElem? (i := 81) rfl))) (Or.inl (hw _ (List.mem_of_getElem? (i := 85) rfl))) (by decide) (t := .int) (t' := .boolean) (by decide) (by decide)))
  have c22_F_b9_kept := c21_F_b9_kept.other W22 (Or.inr (slot_ne (Or.inl (hw _ (List.mem_of_getElem? (i := 83) rfl))) (Or.inl (hw _ (List.mem_of_getElem? (i := 85) rfl))) (by decide) (t := .boolean) (t' := .boolean) (by decide) (by decide)))
  have c22_F_b9_out := c21_F_b9_out.same W22
  have N22 := Fr.snoc X22 N21 g_b9
  have K22 : Keep h0 h22 [ar, alv] := K21.wr W22 (Or.inr sz_b9)
  obtain ⟨T23, X23, e23, st23⟩ := getF X22 hx hZ hown (host := "") (Or.inl (hw _ (List.mem_of_getElem? (i := 63) rfl))) Via.refl e22 c22_F_ar_depth (g := (mkF m 112 #[.val (.ref ar), .val .null, .val (.long (0 : Int64)), .second, .val (.ref b9)] [(.ref ar), (.ref ar)])) rfl rfl (hb hby d8_112)
  obtain ⟨T24, h24, X24, e24, W24, st24⟩ := putF X23 hx hZ hown (host := "") (Or.inl (hw _ (List.mem_of_getElem? (i := 63) rfl))) Via.refl e23 c22_F_ar_depth c22_E_ar (Or.inl (hw _ (List.mem_of_getElem? (i := 64) rfl))) (hw _ (List.mem_of_getElem? (i := 1) rfl)) (ty := .int) (by decide) rfl rfl (g := (mkF m 117 #[.val (.ref ar), .val .null, .val (.long (0 : Int64)), .second, .val (.ref b9)] [(.int (2 : Int32)), (.ref ar)])) rfl rfl (hb hby d8_117)
  have c24_E_ar := c22_E_ar.wr W24
  have c24_F_ar_outOfOrder := c22_F_ar_outOfOrder.other W24 (Or.inr (slot_ne (Or.inr (hw _ (List.mem_of_getElem? (i := 48) rfl))) (Or.inl (hw _ (List.mem_of_getElem? (i := 64) rfl))) (by decide) (t := (.object "java/util/Set")) (t' := .int) (by decide) (by decide)))
  have c24_F_ar_held := c22_F_ar_held.other W24 (Or.inr (slot_ne (Or.inl (hw _ (List.mem_of_getElem? (i := 51) rfl))) (Or.inl (hw _ (List.mem_of_getElem? (i := 64) rfl))) (by decide) (t := (.array .int)) (t' := .int) (by decide) (by decide)))
  have c24_F_ar_levels := c22_F_ar_levels.other W24 (Or.inr (slot_ne (Or.inl (hw _ (List.mem_of_getElem? (i := 55) rfl))) (Or.inl (hw _ (List.mem_of_getElem? (i := 64) rfl))) (by decide) (t := (.array (.object "com/example/kindgen/kindgen/core/document/RecordOrder$Level"))) (t' := .int) (by decide) (by decide)))
  have c24_F_ar_longBytes := c22_F_ar_longBytes.other W24 (Or.inr (slot_ne (Or.inr (hw _ (List.mem_of_getElem? (i := 57) rfl))) (Or.inl (hw _ (List.mem_of_getElem? (i := 64) rfl))) (by decide) (t := .long) (t' := .int) (by decide) (by decide)))
  have c24_F_ar_depth := c22_F_ar_depth.same W24
  have c24_F_ar_started := c22_F_ar_started.other W24 (Or.inr (slot_ne (Or.inl (hw _ (List.mem_of_getElem? (i := 73) rfl))) (Or.inl (hw _ (List.mem_of_getElem? (i := 64) rfl))) (by decide) (t := .int) (t' := .int) (by decide) (by decide)))
  have c24_F_ar_heldCount := c22_F_ar_heldCount.other W24 (Or.inr (slot_ne (Or.inl (hw _ (List.mem_of_getElem? (i := 165) rfl))) (Or.inl (hw _ (List.mem_of_getElem? (i := 64) rfl))) (by decide) (t := .int) (t' := .int) (by decide) (by decide)))
  have c24_V_alv := c22_V_alv.other W24 (Ne.symm ne_ar_alv)
  have c24_E_b9 := c22_E_b9.wr W24
  have c24_F_b9_number := c22_F_b9_number.other W24 (Or.inl (Ne.symm ne9_ar))
  have c24_F_b9_record := c22_F_b9_record.other W24 (Or.inl (Ne.symm ne9_ar))
  have c24_F_b9_start := c22_F_b9_start.other W24 (Or.inl (Ne.symm ne9_ar))
  have c24_F_b9_lastDeclared := c22_F_b9_lastDeclared.other W24 (Or.inl (Ne.symm ne9_ar))
  have c24_F_b9_kept := c22_F_b9_kept.other W24 (Or.inl (Ne.symm ne9_ar))
  have c24_F_b9_out := c22_F_b9_out.other W24 (Or.inl (Ne.symm ne9_ar))
  have N24 := Fr.snoc X24 N22 g_ar
  have K24 : Keep h0 h24 [ar, alv] := K22.wr W24 (Or.inl (List.mem_of_getElem? (i := 0) rfl))
  obtain ⟨T25, X25, e25, st25⟩ := getF X24 hx hZ hown (host := "") (Or.inl (hw _ (List.mem_of_getElem? (i := 72) rfl))) Via.refl e24 c24_F_ar_started (g := (mkF m 122 #[.val (.ref ar), .val .null, .val (.long (0 : Int64)), .second, .val (.ref b9)] [(.ref ar), (.ref ar)])) rfl rfl (hb hby d8_122)
  obtain ⟨T26, h26, X26, e26, W26, st26⟩ := putF X25 hx hZ hown (host := "") (Or.inl (hw _ (List.mem_of_getElem? (i := 72) rfl))) Via.refl e25 c24_F_ar_started c24_E_ar (Or.inl (hw _ (List.mem_of_getElem? (i := 73) rfl))) (hw _ (List.mem_of_getElem? (i := 1) rfl)) (ty := .int) (by decide) rfl rfl (g := (mkF m 127 #[.val (.ref ar), .val .null, .val (.long (0 : Int64)), .second, .val (.ref b9)] [(.int (2 : Int32)), (.ref ar)])) rfl rfl (hb hby d8_127)
  have c26_E_ar := c24_E_ar.wr W26
  have c26_F_ar_outOfOrder := c24_F_ar_outOfOrder.other W26 (Or.inr (slot_ne (Or.inr (hw _ (List.mem_of_getElem? (i := 48) rfl))) (Or.inl (hw _ (List.mem_of_getElem? (i := 73) rfl))) (by decide) (t := (.object "java/util/Set")) (t' := .int) (by decide) (by decide)))
  have c26_F_ar_held := c24_F_ar_held.other W26 (Or.inr (slot_ne (Or.inl (hw _ (List.mem_of_getElem? (i := 51) rfl))) (Or.inl (hw _ (List.mem_of_getElem? (i := 73) rfl))) (by decide) (t := (.array .int)) (t' := .int) (by decide) (by decide)))
  have c26_F_ar_levels := c24_F_ar_levels.other W26 (Or.inr (slot_ne (Or.inl (hw _ (List.mem_of_getElem? (i := 55) rfl))) (Or.inl (hw _ (List.mem_of_getElem? (i := 73) rfl))) (by decide) (t := (.array (.object "com/example/kindgen/kindgen/core/document/RecordOrder$Level"))) (t' := .int) (by decide) (by decide)))
  have c26_F_ar_longBytes := c24_F_ar_longBytes.other W26 (Or.inr (slot_ne (Or.inr (hw _ (List.mem_of_getElem? (i := 57) rfl))) (Or.inl (hw _ (List.mem_of_getElem? (i := 73) rfl))) (by decide) (t := .long) (t' := .int) (by decide) (by decide)))
  have c26_F_ar_depth := c24_F_ar_depth.other W26 (Or.inr (slot_ne (Or.inl (hw _ (List.mem_of_getElem? (i := 64) rfl))) (Or.inl (hw _ (List.mem_of_getElem? (i := 73) rfl))) (by decide) (t := .int) (t' := .int) (by decide) (by decide)))
  have c26_F_ar_started := c24_F_ar_started.same W26
  have c26_F_ar_heldCount := c24_F_ar_heldCount.other W26 (Or.inr (slot_ne (Or.inl (hw _ (List.mem_of_getElem? (i := 165) rfl))) (Or.inl (hw _ (List.mem_of_getElem? (i := 73) rfl))) (by decide) (t := .int) (t' := .int) (by decide) (by decide)))
  have c26_V_alv := c24_V_alv.other W26 (Ne.symm ne_ar_alv)
  have c26_E_b9 := c24_E_b9.wr W26
  have c26_F_b9_number := c24_F_b9_number.other W26 (Or.inl (Ne.symm ne9_ar))
  have c26_F_b9_record := c24_F_b9_record.other W26 (Or.inl (Ne.symm ne9_ar))
  have c26_F_b9_start := c24_F_b9_start.other W26 (Or.inl (Ne.symm ne9_ar))
  have c26_F_b9_lastDeclared := c24_F_b9_lastDeclared.other W26 (Or.inl (Ne.symm ne9_ar))
  have c26_F_b9_kept := c24_F_b9_kept.other W26 (Or.inl (Ne.symm ne9_ar))
  have c26_F_b9_out := c24_F_b9_out.other W26 (Or.inl (Ne.symm ne9_ar))
  have N26 := Fr.snoc X26 N24 g_ar
  have K26 : Keep h0 h26 [ar, alv] := K24.wr W26 (Or.inl (List.mem_of_getElem? (i := 0) rfl))
  obtain ⟨fs, hr, hrun, hended, hW, hsame⟩ := X26.leave (v := none) (fun _ => rfl)
  refine ⟨_, _, pre0 _ ?_, hrun, hended, _, _, rfl, ?_, ⟨_, rfl⟩, hW, hsame.mono (by decide) (by decide)⟩
  · show Steps p.tables e below (s₁.setTop (mkF m 0 #[.val (.ref ar), .val .null, .val (.long (0 : Int64)), .second, .unset] [])) _
    refine XS.aloadN X0.here hx rfl (hb hby d8_0) rfl rfl ?_
    show Steps p.tables e below (s₁.setTop (mkF m 1 #[.val (.ref ar), .val .null, .val (.long (0 : Int64)), .second, .unset] [(.ref ar)])) _
    refine st1 _ ?_
    refine XS.aloadN X1.here hx rfl (hb hby d8_4) rfl rfl ?_
    show Steps p.tables e below (T1.setTop (mkF m 5 #[.val (.ref ar), .val .null, .val (.long (0 : Int64)), .second, .unset] [(.ref ar), (.int (1 : Int32))])) _
    refine st2 _ ?_
    show Steps p.tables e below (T2.setTop (mkF m 8 #[.val (.ref ar), .val .null, .val (.long (0 : Int64)), .second, .unset] [(.ref alv), (.int (1 : Int32))])) _
    refine X2.arraylength hx (by rw [e2]; exact Ar_3.1) (State.isArrayOf_alike hZ.alike Ar_3.2.1) (g := (mkF m 8 #[.val (.ref ar), .val .null, .val (.long (0 : Int64)), .second, .unset] [(.ref alv), (.int (1 : Int32))])) rfl rfl (hb hby d8_8) _ ?_
    rw [len_of S_3 N_3]
    show Steps p.tables e below (T2.setTop (mkF m 9 #[.val (.ref ar), .val .null, .val (.long (0 : Int64)), .second, .unset] [(.int (16 : Int32)), (.int (1 : Int32))])) _
    refine XS.icmpYes X2.here hx rfl (pc0 := 9) (pc' := 32) rfl (hb hby d8_9) rfl (feq (by decide : ¬ ((1 : Int32) = (16 : Int32)))).2 (by decide) (by decide) ?_
    refine XS.aloadN X2.here hx rfl (hb hby d8_32) rfl rfl ?_
    show Steps p.tables e below (T2.setTop (mkF m 33 #[.val (.ref ar), .val .null, .val (.long (0 : Int64)), .second, .unset] [(.ref ar)])) _
    refine st4 _ ?_
    refine XS.aloadN X4.here hx rfl (hb hby d8_36) rfl rfl ?_
    show Steps p.tables e below (T4.setTop (mkF m 37 #[.val (.ref ar), .val .null, .val (.long (0 : Int64)), .second, .unset] [(.ref ar), (.ref alv)])) _
    refine st5 _ ?_
    show Steps p.tables e below (T5.setTop (mkF m 40 #[.val (.ref ar), .val .null, .val (.long (0 : Int64)), .second, .unset] [(.int (1 : Int32)), (.ref alv)])) _
    refine X5.aaload hx (j := (1 : Int32)) (v := .null) (by rw [e5]; exact Ar_6.1) (State.isArrayOf_alike hZ.alike Ar_6.2.1) rfl Ar_6.2.2 hin_6 hat_6 (g := (mkF m 40 #[.val (.ref ar), .val .null, .val (.long (0 : Int64)), .second, .unset] [(.int (1 : Int32)), (.ref alv)])) rfl rfl (hb hby d8_40) _ ?_
    show Steps p.tables e below (T5.setTop (mkF m 41 #[.val (.ref ar), .val .null, .val (.long (0 : Int64)), .second, .unset] [.null])) _
    refine XS.ifnonnullNo X5.here hx rfl (hb hby d8_41) rfl ?_
    refine XS.aloadN X5.here hx rfl (hb hby d8_44) rfl rfl ?_
    show Steps p.tables e below (T5.setTop (mkF m 45 #[.val (.ref ar), .val .null, .val (.long (0 : Int64)), .second, .unset] [(.ref ar)])) _
    refine st7 _ ?_
    refine XS.aloadN X7.here hx rfl (hb hby d8_48) rfl rfl ?_
    show Steps p.tables e below (T7.setTop (mkF m 49 #[.val (.ref ar), .val .null, .val (.long (0 : Int64)), .second, .unset] [(.ref ar), (.ref alv)])) _
    refine st8 _ ?_
    show Steps p.tables e below (T8.setTop (mkF m 52 #[.val (.ref ar), .val .null, .val (.long (0 : Int64)), .second, .unset] [(.int (1 : Int32)), (.ref alv)])) _
    refine st9 _ ?_
    show Steps p.tables e below (T9.setTop (mkF m 55 #[.val (.ref ar), .val .null, .val (.long (0 : Int64)), .second, .unset] [(.ref b9), (.int (1 : Int32)), (.ref alv)])) _
    refine XS.dup X9.here hx rfl (hb hby d8_55) rfl rfl ?_
    show Steps p.tables e below (T9.setTop (mkF m 56 #[.val (.ref ar), .val .null, .val (.long (0 : Int64)), .second, .unset] [(.ref b9), (.ref b9), (.int (1 : Int32)), (.ref alv)])) _
    refine st10.trans ?_
    show Steps p.tables e below (T10.setTop (mkF m 59 #[.val (.ref ar), .val .null, .val (.long (0 : Int64)), .second, .unset] [(.ref b9), (.int (1 : Int32)), (.ref alv)])) _
    refine st12 _ ?_
    refine XS.aloadN X12.here hx rfl (hb hby d8_60) rfl rfl ?_
    show Steps p.tables e below (T12.setTop (mkF m 61 #[.val (.ref ar), .val .null, .val (.long (0 : Int64)), .second, .unset] [(.ref ar)])) _
    refine st13 _ ?_
    refine XS.aloadN X13.here hx rfl (hb hby d8_64) rfl rfl ?_
    show Steps p.tables e below (T13.setTop (mkF m 65 #[.val (.ref ar), .val .null, .val (.long (0 : Int64)), .second, .unset] [(.ref ar), (.ref alv)])) _
    refine st14 _ ?_
    show Steps p.tables e below (T14.setTop (mkF m 68 #[.val (.ref ar), .val .null, .val (.long (0 : Int64)), .second, .unset] [(.int (1 : Int32)), (.ref alv)])) _
    refine X14.aaload hx (j := (1 : Int32)) (v := (.ref b9)) (by rw [e14]; exact Ar_15.1) (State.isArrayOf_alike hZ.alike Ar_15.2.1) rfl Ar_15.2.2 hin_15 hat_15 (g := (mkF m 68 #[.val (.ref ar), .val .null, .val (.long (0 : Int64)), .second, .unset] [(.int (1 : Int32)), (.ref alv)])) rfl rfl (hb hby d8_68) _ ?_
    show Steps p.tables e below (T14.setTop (mkF m 69 #[.val (.ref ar), .val .null, .val (.long (0 : Int64)), .second, .unset] [(.ref b9)])) _
    refine XS.astore X14.here hx rfl (hb hby d8_69) rfl rfl (l' := #[.val (.ref ar), .val .null, .val (.long (0 : Int64)), .second, .val (.ref b9)]) rfl ?_
    refine XS.aload X14.here hx rfl (hb hby d8_71) rfl rfl ?_
    refine XS.aloadN X14.here hx rfl (hb hby d8_73) rfl rfl ?_
    show Steps p.tables e below (T14.setTop (mkF m 74 #[.val (.ref ar), .val .null, .val (.long (0 : Int64)), .second, .val (.ref b9)] [(.ref ar), (.ref b9)])) _
    refine st16 _ ?_
    show Steps p.tables e below (T16.setTop (mkF m 77 #[.val (.ref ar), .val .null, .val (.long (0 : Int64)), .second, .val (.ref b9)] [(.int (1 : Int32)), (.ref b9)])) _
    refine st17 _ ?_
    refine XS.aload X17.here hx rfl (hb hby d8_80) rfl rfl ?_
    refine XS.aloadN X17.here hx rfl (hb hby d8_82) rfl rfl ?_
    show Steps p.tables e below (T17.setTop (mkF m 83 #[.val (.ref ar), .val .null, .val (.long (0 : Int64)), .second, .val (.ref b9)] [.null, (.ref b9)])) _
    refine st18 _ ?_
    refine XS.aload X18.here hx rfl (hb hby d8_86) rfl rfl ?_
    refine XS.lloadN X18.here hx rfl (hb hby d8_88) rfl ?_
    show Steps p.tables e below (T18.setTop (mkF m 89 #[.val (.ref ar), .val .null, .val (.long (0 : Int64)), .second, .val (.ref b9)] [(.long (0 : Int64)), (.ref b9)])) _
    refine st19 _ ?_
    refine XS.aload X19.here hx rfl (hb hby d8_92) rfl rfl ?_
    refine XS.iconst X19.here hx rfl (hb hby d8_94) ?_
    show Steps p.tables e below (T19.setTop (mkF m 95 #[.val (.ref ar), .val .null, .val (.long (0 : Int64)), .second, .val (.ref b9)] [(.int (-1 : Int32)), (.ref b9)])) _
    refine st20 _ ?_
    refine XS.aload X20.here hx rfl (hb hby d8_98) rfl rfl ?_
    refine XS.iconst X20.here hx rfl (hb hby d8_100) ?_
    show Steps p.tables e below (T20.setTop (mkF m 101 #[.val (.ref ar), .val .null, .val (.long (0 : Int64)), .second, .val (.ref b9)] [(.int (0 : Int32)), (.ref b9)])) _
    refine st21 _ ?_
    refine XS.aload X21.here hx rfl (hb hby d8_104) rfl rfl ?_
    refine XS.iconst X21.here hx rfl (hb hby d8_106) ?_
    show Steps p.tables e below (T21.setTop (mkF m 107 #[.val (.ref ar), .val .null, .val (.long (0 : Int64)), .second, .val (.ref b9)] [(.int (0 : Int32)), (.ref b9)])) _
    refine st22 _ ?_
    refine XS.aloadN X22.here hx rfl (hb hby d8_110) rfl rfl ?_
    show Steps p.tables e below (T22.setTop (mkF m 111 #[.val (.ref ar), .val .null, .val (.long (0 : Int64)), .second, .val (.ref b9)] [(.ref ar)])) _
    refine XS.dup X22.here hx rfl (hb hby d8_111) rfl rfl ?_
    show Steps p.tables e below (T22.setTop (mkF m 112 #[.val (.ref ar), .val .null, .val (.long (0 : Int64)), .second, .val (.ref b9)] [(.ref ar), (.ref ar)])) _
    refine st23 _ ?_
    refine XS.iconst X23.here hx rfl (hb hby d8_115) ?_
    refine XS.iadd X23.here hx rfl (hb hby d8_116) rfl ?_
    show Steps p.tables e below (T23.setTop (mkF m 117 #[.val (.ref ar), .val .null, .val (.long (0 : Int64)), .second, .val (.ref b9)] [(.int (2 : Int32)), (.ref ar)])) _
    refine st24 _ ?_
    refine XS.aloadN X24.here hx rfl (hb hby d8_120) rfl rfl ?_
    show Steps p.tables e below (T24.setTop (mkF m 121 #[.val (.ref ar), .val .null, .val (.long (0 : Int64)), .second, .val (.ref b9)] [(.ref ar)])) _
    refine XS.dup X24.here hx rfl (hb hby d8_121) rfl rfl ?_
    show Steps p.tables e below (T24.setTop (mkF m 122 #[.val (.ref ar), .val .null, .val (.long (0 : Int64)), .second, .val (.ref b9)] [(.ref ar), (.ref ar)])) _
    refine st25 _ ?_
    refine XS.iconst X25.here hx rfl (hb hby d8_125) ?_
    refine XS.iadd X25.here hx rfl (hb hby d8_126) rfl ?_
    show Steps p.tables e below (T25.setTop (mkF m 127 #[.val (.ref ar), .val .null, .val (.long (0 : Int64)), .second, .val (.ref b9)] [(.int (2 : Int32)), (.ref ar)])) _
    refine st26 _ ?_
    show Steps p.tables e below (T26.setTop (mkF m 130 #[.val (.ref ar), .val .null, .val (.long (0 : Int64)), .second, .val (.ref b9)] [])) _
    exact X26.returnOut hx Bd.returns (hb hby d8_130) hr
  · show Q8s1 Z ar aset ahd alv kl u0 h0 n0 _ T26.heap _
    rw [e26]
    exact ⟨b9, rfl, N26, K26, c26_E_ar, c26_F_ar_outOfOrder, c26_F_ar_held, c26_F_ar_levels, c26_F_ar_longBytes, c26_F_ar_depth, c26_F_ar_started, c26_F_ar_heldCount, c26_V_alv, c26_E_b9, c26_F_b9_number, c26_F_b9_record, c26_F_b9_start, c26_F_b9_lastDeclared, c26_F_b9_kept, c26_F_b9_out, g_b9, sz_b9⟩
def own_kp (p k : Int32) : Int32 := if p < 0 then 1 else k
def own_ou (p k ls o : Int32) : Int32 := if p < 0 then o else if k = 0 then (if p < ls then 1 else o) else 1
def own_ls (p ls : Int32) : Int32 := if p < 0 then ls else p
theorem ef_10 (m : MethodId) (x0 : Addr) (x1 : Int32) : entryFrame m #[(.ref x0), (.int x1)] 3 = mkF m 0 #[.val (.ref x0), .val (.int x1), .unset] [] := by first | (simp [entryFrame, mkF, argsToLocals, Value.category]; done) | rfl
def Q10m0 (Z : State) (ar : Addr) (p1 : Int32) (aset : Addr) (ahd : Addr) (alv : Addr) (kl : ClassId) (aL : Addr) (sd : Int32) (hc : Int32) (nr : Int32) (ls : Int32) (kp : Int32) (ou : Int32) (u1 : Value) (h0 : Heap) (n0 : Nat) (v : Option Value) (h : Heap) (L : List Loc) : Prop := v = none ∧ Fr n0 L ∧ Keep h0 h [aL] ∧ Exa Z h aL "com/example/kindgen/kindgen/core/document/RecordOrder$Level" ∧ Fld Z h aL "com/example/kindgen/kindgen/core/document/RecordOrder$Level" "number" "I" (.int nr) ∧ Fld Z h aL "com/example/kindgen/kindgen/core/document/RecordOrder$Level" "record" "Lcom/example/kindgen/kindgen/runtime/RecordShape;" .null ∧ Fld Z h aL "com/example/kindgen/kindgen/core/document/RecordOrder$Level" "start" "J" (.long (0 : Int64)) ∧ Fld Z h aL "com/example/kindgen/kindgen/core/document/RecordOrder$Level" "lastDeclared" "I" (.int (own_ls p1 ls)) ∧ Fld Z h aL "com/example/kindgen/kindgen/core/document/RecordOrder$Level" "kept" "Z" (.int (own_kp p1 kp)) ∧ Fld Z h aL "com/example/kindgen/kindgen/core/document/RecordOrder$Level" "out" "Z" (.int (own_ou p1 kp ls ou))
set_option maxRecDepth 65536 in
set_option maxHeartbeats 40000000 in
theorem rm10m0 (l : Launch) (Z : State) (a0 : Array Value) (hw : ∀ d ∈ tables_1, d.before a0 Z = true) (ws : List Jvm.Cond) (ar : Addr) (p1 : Int32) (aset : Addr) (ahd : Addr) (alv : Addr) (kl : ClassId) (aL : Addr) (sd : Int32) (hc : Int32) (nr : Int32) (ls : Int32) (kp : Int32) (ou : Int32) (u1 : Value) (h0 : Heap) (n0 : Nat) (Z0 : n0 ≤ h0.size) (ho : ou = 0 ∨ ou = 1) (E_ar : Exa Z h0 ar "com/example/kindgen/kindgen/core/document/RecordOrder") (F_ar_outOfOrder : Fld Z h0 ar "com/example/kindgen/kindgen/core/document/RecordOrder" "outOfOrder" "Ljava/util/Set;" (.ref aset)) (F_ar_held : Fld Z h0 ar "com/example/kindgen/kindgen/core/document/RecordOrder" "held" "[I" (.ref ahd)) (F_ar_levels : Fld Z h0 ar "com/example/kindgen/kindgen/core/document/RecordOrder" "levels" "[Lcom/example/kindgen/kindgen/core/document/RecordOrder$Level;" (.ref alv)) (F_ar_longBytes : Fld Z h0 ar "com/example/kindgen/kindgen/core/document/RecordOrder" "longBytes" "J" (.long (0 : Int64))) (F_ar_depth : Fld Z h0 ar "com/example/kindgen/kindgen/core/document/RecordOrder" "depth" "I" (.int (1 : Int32))) (F_ar_started : Fld Z h0 ar "com/example/kindgen/kindgen/core/document/RecordOrder" "started" "I" (.int sd)) (F_ar_heldCount : Fld Z h0 ar "com/example/kindgen/kindgen/core/document/RecordOrder" "heldCount" "I" (.int hc)) (E_aL : Exa Z h0 aL "com/example/kindgen/kindgen/core/document/RecordOrder$Level") (F_aL_number : Fld Z h0 aL "com/example/kindgen/kindgen/core/document/RecordOrder$Level" "number" "I" (.int nr)) (F_aL_record : Fld Z h0 aL "com/example/kindgen/kindgen/core/document/RecordOrder$Level" "record" "Lcom/example/kindgen/kindgen/runtime/RecordShape;" .null) (F_aL_start : Fld Z h0 aL "com/example/kindgen/kindgen/core/document/RecordOrder$Level" "start" "J" (.long (0 : Int64))) (F_aL_lastDeclared : Fld Z h0 aL "com/example/kindgen/kindgen/core/document/RecordOrder$Level" "lastDeclared" "I" (.int ls)) (F_aL_kept : Fld Z h0 aL "com/example/kindgen/kindgen/core/document/RecordOrder$Level" "kept" "Z" (.int kp)) (F_aL_out : Fld Z h0 aL "com/example/kindgen/kindgen/core/document/RecordOrder$Level" "out" "Z" (.int ou)) (V_alv : Arv Z h0 alv kl (.object "com/example/kindgen/kindgen/core/document/RecordOrder$Level") (16 : Int32) [(.ref aL), u1, .null, .null, .null, .null, .null, .null, .null, .null, .null, .null, .null, .null, .null, .null] .null) (Ov_alv : Ovr Z kl "com/example/kindgen/kindgen/core/document/RecordOrder$Level") (ne_ar_aL : ar ≠ aL) (ne_ar_alv : ar ≠ alv) (ne_aL_alv : aL ≠ alv) (g_aL : n0 ≤ aL) :
    MetFree l (⟨"com/example/kindgen/kindgen/core/document/RecordOrder", "member", "(I)V"⟩ : MethodName) (head1 (Jvm.Cond.code (⟨"com/example/kindgen/kindgen/core/document/RecordOrder", "member", "(I)V"⟩ : MethodName) prog_72_method_5_code 3 none :: ws) ({ frames := 0, cells := 0, slots := 0, locals := 0 } : Room)) (fun a U => a = #[(.ref ar), (.int p1)] ∧ Z.Warmed39 U.vm ∧ U.heap = h0) (fun _ _ _ _ _ => True) (fun _ U o U' => ∃ v L, o = .returned v ∧ Q10m0 Z ar p1 aset ahd alv kl aL sd hc nr ls kp ou u1 h0 n0 v U'.heap L ∧ FrameEnd U o U' L ({ frames := 0, cells := 0, slots := 0, locals := 0 } : Room).cells ({ frames := 0, cells := 0, slots := 0, locals := 0 } : Room).slots) := by
  refine MetFree.of_bodySF (plainFor_of_name pn_10) hisR ?_
  intro p e s m args below meth c s₁ Bd hml0 hP hK
  obtain ⟨rfl, hZ, hh⟩ := hP
  have hx := Bd.exec
  have hby := Bd.bytes
  have hown : s.vm.findClass "com/example/kindgen/kindgen/core/document/RecordOrder" = some m.cls := findClass_of_methodNamed Bd.named
  have X0 : Stand p l e ({ frames := 0, cells := 0, slots := 0, locals := 0 } : Room) s m #[(.ref ar), (.int p1)] below meth c s₁ [] 0 0 := Stand.of_body Bd
  have e0 : s₁.heap = h0 := by rw [← hh, Bd.state]; rfl
  have N0 := Fr.nil n0
  have pre0 : ∀ t, Steps p.tables e below (s₁.setTop (mkF m 0 #[.val (.ref ar), .val (.int p1), .unset] [])) t → Steps p.tables e below (s₁.setTop (entryFrame m #[(.ref ar), (.int p1)] 3)) t := fun t k => castTop (ef_10 m ar p1) k
  have K0 : Keep h0 h0 [aL] := Keep.refl h0 _
  rcases ho with ho | ho
  · have Fo : Fld Z h0 aL "com/example/kindgen/kindgen/core/document/RecordOrder$Level" "out" "Z" (.int (0 : Int32)) := by rw [← ho]; exact F_aL_out
    obtain ⟨T1, X1, e1, st1⟩ := getF X0 hx hZ hown (host := "") (Or.inl (hw _ (List.mem_of_getElem? (i := 54) rfl))) Via.refl e0 F_ar_levels (g := (mkF m 1 #[.val (.ref ar), .val (.int p1), .unset] [(.ref ar)])) rfl rfl (hb hby d10_1)
    obtain ⟨T2, X2, e2, st2⟩ := getF X1 hx hZ hown (host := "") (Or.inl (hw _ (List.mem_of_getElem? (i := 63) rfl))) Via.refl e1 F_ar_depth (g := (mkF m 5 #[.val (.ref ar), .val (.int p1), .unset] [(.ref ar), (.ref alv)])) rfl rfl (hb hby d10_5)
    obtain ⟨cl_3, Ar_3, -, S_3, N_3, H_3, -⟩ := id V_alv
    have hin_3 : ¬ ((0 : Int32) < 0 ∨ cl_3.slots.size ≤ ((0 : Int32)).toNatClampNeg) := inb_of S_3 ⟨by decide, by decide⟩
    have hat_3 : cl_3.slots[((0 : Int32)).toNatClampNeg]? = some (.ref aL) := Has.at H_3 hin_3 rfl
    have pre4 : ∀ t, Steps p.tables e below (T2.setTop (mkF m 13 #[.val (.ref ar), .val (.int p1), .val (.ref aL)] [(.int p1)])) t → Steps p.tables e below (s₁.setTop (entryFrame m #[(.ref ar), (.int p1)] 3)) t := by
      intro t k
      refine pre0 t ?_
      show Steps p.tables e below (s₁.setTop (mkF m 0 #[.val (.ref ar), .val (.int p1), .unset] [])) _
      refine XS.aloadN X0.here hx rfl (hb hby d10_0) rfl rfl ?_
      show Steps p.tables e below (s₁.setTop (mkF m 1 #[.val (.ref ar), .val (.int p1), .unset] [(.ref ar)])) _
      refine st1 _ ?_
      refine XS.aloadN X1.here hx rfl (hb hby d10_4) rfl rfl ?_
      show Steps p.tables e below (T1.setTop (mkF m 5 #[.val (.ref ar), .val (.int p1), .unset] [(.ref ar), (.ref alv)])) _
      refine st2 _ ?_
      refine XS.iconst X2.here hx rfl (hb hby d10_8) ?_
      show Steps p.tables e below (T2.setTop (mkF m 9 #[.val (.ref ar), .val (.int p1), .unset] [(.int (1 : Int32)), (.int (1 : Int32)), (.ref alv)])) _
      refine XS.isub X2.here hx rfl (hb hby d10_9) rfl ?_
      show Steps p.tables e below (T2.setTop (mkF m 10 #[.val (.ref ar), .val (.int p1), .unset] [(.int (0 : Int32)), (.ref alv)])) _
      refine X2.aaload hx (j := (0 : Int32)) (v := (.ref aL)) (by rw [e2]; exact Ar_3.1) (State.isArrayOf_alike hZ.alike Ar_3.2.1) rfl Ar_3.2.2 hin_3 hat_3 (g := (mkF m 10 #[.val (.ref ar), .val (.int p1), .unset] [(.int (0 : Int32)), (.ref alv)])) rfl rfl (hb hby d10_10) _ ?_
      show Steps p.tables e below (T2.setTop (mkF m 11 #[.val (.ref ar), .val (.int p1), .unset] [(.ref aL)])) _
      refine XS.astoreN X2.here hx rfl (hb hby d10_11) rfl rfl (l' := #[.val (.ref ar), .val (.int p1), .val (.ref aL)]) rfl ?_
      refine XS.iloadN X2.here hx rfl (hb hby d10_12) rfl ?_
      exact k
    by_cases hc13_5 : p1 < (0 : Int32)
    · obtain ⟨T6, h6, X6, e6, W6, st6⟩ := own_putFR X2 hx hZ hown (hw _ (List.mem_of_getElem? (i := 82) rfl)) e2 F_aL_kept E_aL (hw _ (List.mem_of_getElem? (i := 83) rfl)) (hw _ (List.mem_of_getElem? (i := 65) rfl)) (ty := .boolean) (by decide) rfl rfl (g := (mkF m 18 #[.val (.ref ar), .val (.int p1), .val (.ref aL)] [(.int (1 : Int32)), (.ref aL)])) rfl rfl (hb hby d10_18)
      have c6_E_aL := E_aL.wr W6
      have c6_F_aL_number := F_aL_number.other W6 (Or.inr (slot_ne (Or.inl (hw _ (List.mem_of_getElem? (i := 75) rfl))) (Or.inl (hw _ (List.mem_of_getElem? (i := 83) rfl))) (by decide) (t := .int) (t' := .boolean) (by decide) (by decide)))
      have c6_F_aL_record := F_aL_record.other W6 (Or.inr (slot_ne (Or.inl (hw _ (List.mem_of_getElem? (i := 77) rfl))) (Or.inl (hw _ (List.mem_of_getElem? (i := 83) rfl))) (by decide) (t := (.object "com/example/kindgen/kindgen/runtime/RecordShape")) (t' := .boolean) (by decide) (by decide)))
      have c6_F_aL_start := F_aL_start.other W6 (Or.inr (slot_ne (Or.inl (hw _ (List.mem_of_getElem? (i := 79) rfl))) (Or.inl (hw _ (List.mem_of_getElem? (i := 83) rfl))) (by decide) (t := .long) (t' := .boolean) (by decide) (by decide)))
      have c6_F_aL_lastDeclared := F_aL_lastDeclared.other W6 (Or.inr (slot_ne (Or.inl (hw _ (List.mem_of_getElem? (i := 81) rfl))) (Or.inl (hw _ (List.mem_of_getElem? (i := 83) rfl))) (by decide) (t := .int) (t' := .boolean) (by decide) (by decide)))
      have c6_F_aL_kept := F_aL_kept.same W6
      have c6_F_aL_out := Fo.other W6 (Or.inr (slot_ne (Or.inl (hw _ (List.mem_of_getElem? (i := 85) rfl))) (Or.inl (hw _ (List.mem_of_getElem? (i := 83) rfl))) (by decide) (t := .boolean) (t' := .boolean) (by decide) (by decide)))
      have N6 := Fr.snoc X6 N0 g_aL
      have K6 : Keep h0 h6 [aL] := K0.wr W6 (Or.inl (List.mem_of_getElem? (i := 0) rfl))
      obtain ⟨fs, hr, hrun, hended, hW, hsame⟩ := X6.leave (v := none) (fun _ => rfl)
      refine ⟨_, _, pre4 _ ?_, hrun, hended, _, _, rfl, ?_, ⟨_, rfl⟩, hW, hsame.mono (by decide) (by decide)⟩
      · show Steps p.tables e below (T2.setTop (mkF m 13 #[.val (.ref ar), .val (.int p1), .val (.ref aL)] [(.int p1)])) _
        refine XS.ifNo X2.here hx rfl (hb hby d10_13) rfl ((if0 _ _).trans (tlt hc13_5).2.1) ?_
        refine XS.aloadN X2.here hx rfl (hb hby d10_16) rfl rfl ?_
        refine XS.iconst X2.here hx rfl (hb hby d10_17) ?_
        show Steps p.tables e below (T2.setTop (mkF m 18 #[.val (.ref ar), .val (.int p1), .val (.ref aL)] [(.int (1 : Int32)), (.ref aL)])) _
        refine st6 _ ?_
        refine XS.goto X6.here hx rfl (pc0 := 21) (pc' := 58) rfl (hb hby d10_21) (by decide) (by decide) ?_
        show Steps p.tables e below (T6.setTop (mkF m 58 #[.val (.ref ar), .val (.int p1), .val (.ref aL)] [])) _
        exact X6.returnOut hx Bd.returns (hb hby d10_58) hr
      · show Q10m0 Z ar p1 aset ahd alv kl aL sd hc nr ls kp ou u1 h0 n0 _ T6.heap _
        rw [e6]
        exact ⟨rfl, N6, K6, c6_E_aL, c6_F_aL_number, c6_F_aL_record, c6_F_aL_start, (by rw [show (own_ls p1 ls) = ls from by simp [own_kp, own_ou, own_ls, ho, hc13_5]]; exact c6_F_aL_lastDeclared), (by rw [show (own_kp p1 kp) = (1 : Int32) from by simp [own_kp, own_ou, own_ls, ho, hc13_5]]; exact c6_F_aL_kept), (by rw [show (own_ou p1 kp ls ou) = (0 : Int32) from by simp [own_kp, own_ou, own_ls, ho, hc13_5]]; exact c6_F_aL_out)⟩
    · obtain ⟨T7, X7, e7, st7⟩ := own_getFR X2 hx hZ hown (hw _ (List.mem_of_getElem? (i := 84) rfl)) e2 Fo (g := (mkF m 26 #[.val (.ref ar), .val (.int p1), .val (.ref aL)] [(.ref aL), (.ref aL)])) rfl rfl (hb hby d10_26)
      obtain ⟨T8, X8, e8, st8⟩ := own_getFR X7 hx hZ hown (hw _ (List.mem_of_getElem? (i := 82) rfl)) e7 F_aL_kept (g := (mkF m 30 #[.val (.ref ar), .val (.int p1), .val (.ref aL)] [(.ref aL), (.int (0 : Int32)), (.ref aL)])) rfl rfl (hb hby d10_30)
      have pre9 : ∀ t, Steps p.tables e below (T8.setTop (mkF m 33 #[.val (.ref ar), .val (.int p1), .val (.ref aL)] [(.int kp), (.int (0 : Int32)), (.ref aL)])) t → Steps p.tables e below (s₁.setTop (entryFrame m #[(.ref ar), (.int p1)] 3)) t := by
        intro t k
        refine pre4 t ?_
        show Steps p.tables e below (T2.setTop (mkF m 13 #[.val (.ref ar), .val (.int p1), .val (.ref aL)] [(.int p1)])) _
        refine XS.ifYes X2.here hx rfl (pc0 := 13) (pc' := 24) rfl (hb hby d10_13) rfl ((if0 _ _).trans (flt hc13_5).2.1) (by decide) (by decide) ?_
        refine XS.aloadN X2.here hx rfl (hb hby d10_24) rfl rfl ?_
        show Steps p.tables e below (T2.setTop (mkF m 25 #[.val (.ref ar), .val (.int p1), .val (.ref aL)] [(.ref aL)])) _
        refine XS.dup X2.here hx rfl (hb hby d10_25) rfl rfl ?_
        show Steps p.tables e below (T2.setTop (mkF m 26 #[.val (.ref ar), .val (.int p1), .val (.ref aL)] [(.ref aL), (.ref aL)])) _
        refine st7 _ ?_
        refine XS.aloadN X7.here hx rfl (hb hby d10_29) rfl rfl ?_
        show Steps p.tables e below (T7.setTop (mkF m 30 #[.val (.ref ar), .val (.int p1), .val (.ref aL)] [(.ref aL), (.int (0 : Int32)), (.ref aL)])) _
        refine st8 _ ?_
        exact k
      by_cases hc33_10 : kp = (0 : Int32)
      · obtain ⟨T11, X11, e11, st11⟩ := own_getFR X8 hx hZ hown (hw _ (List.mem_of_getElem? (i := 80) rfl)) e8 F_aL_lastDeclared (g := (mkF m 38 #[.val (.ref ar), .val (.int p1), .val (.ref aL)] [(.ref aL), (.int p1), (.int (0 : Int32)), (.ref aL)])) rfl rfl (hb hby d10_38)
        have pre12 : ∀ t, Steps p.tables e below (T11.setTop (mkF m 41 #[.val (.ref ar), .val (.int p1), .val (.ref aL)] [(.int ls), (.int p1), (.int (0 : Int32)), (.ref aL)])) t → Steps p.tables e below (s₁.setTop (entryFrame m #[(.ref ar), (.int p1)] 3)) t := by
          intro t k
          refine pre9 t ?_
          show Steps p.tables e below (T8.setTop (mkF m 33 #[.val (.ref ar), .val (.int p1), .val (.ref aL)] [(.int kp), (.int (0 : Int32)), (.ref aL)])) _
          refine XS.ifNo X8.here hx rfl (hb hby d10_33) rfl ((if0 _ _).trans (teq hc33_10).2) ?_
          refine XS.iloadN X8.here hx rfl (hb hby d10_36) rfl ?_
          refine XS.aloadN X8.here hx rfl (hb hby d10_37) rfl rfl ?_
          show Steps p.tables e below (T8.setTop (mkF m 38 #[.val (.ref ar), .val (.int p1), .val (.ref aL)] [(.ref aL), (.int p1), (.int (0 : Int32)), (.ref aL)])) _
          refine st11 _ ?_
          exact k
        by_cases hc41_13 : p1 < ls
        · obtain ⟨T14, h14, X14, e14, W14, st14⟩ := own_putFR X11 hx hZ hown (hw _ (List.mem_of_getElem? (i := 84) rfl)) e11 Fo E_aL (hw _ (List.mem_of_getElem? (i := 85) rfl)) (hw _ (List.mem_of_getElem? (i := 65) rfl)) (ty := .boolean) (by decide) rfl rfl (g := (mkF m 50 #[.val (.ref ar), .val (.int p1), .val (.ref aL)] [(.int (1 : Int32)), (.ref aL)])) rfl rfl (hb hby d10_50)
          have c14_E_aL := E_aL.wr W14
          have c14_F_aL_number := F_aL_number.other W14 (Or.inr (slot_ne (Or.inl (hw _ (List.mem_of_getElem? (i := 75) rfl))) (Or.inl (hw _ (List.mem_of_getElem? (i := 85) rfl))) (by decide) (t := .int) (t' := .boolean) (by decide) (by decide)))
          have c14_F_aL_record := F_aL_record.other W14 (Or.inr (slot_ne (Or.inl (hw _ (List.mem_of_getElem? (i := 77) rfl))) (Or.inl (hw _ (List.mem_of_getElem? (i := 85) rfl))) (by decide) (t := (.object "com/example/kindgen/kindgen/runtime/RecordShape")) (t' := .boolean) (by decide) (by decide)))
          have c14_F_aL_start := F_aL_start.other W14 (Or.inr (slot_ne (Or.inl (hw _ (List.mem_of_getElem? (i := 79) rfl))) (Or.inl (hw _ (List.mem_of_getElem? (i := 85) rfl))) (by decide) (t := .long) (t' := .boolean) (by decide) (by decide)))
          have c14_F_aL_lastDeclared := F_aL_lastDeclared.other W14 (Or.inr (slot_ne (Or.inl (hw _ (List.mem_of_getElem? (i := 81) rfl))) (Or.inl (hw _ (List.mem_of_getElem? (i := 85) rfl))) (by decide) (t := .int) (t' := .boolean) (by decide) (by decide)))
          have c14_F_aL_kept := F_aL_kept.other W14 (Or.inr (slot_ne (Or.inl (hw _ (List.mem_of_getElem? (i := 83) rfl))) (Or.inl (hw _ (List.mem_of_getElem? (i := 85) rfl))) (by decide) (t := .boolean) (t' := .boolean) (by decide) (by decide)))
          have c14_F_aL_out := Fo.same W14
          have N14 := Fr.snoc X14 N0 g_aL
          have K14 : Keep h0 h14 [aL] := K0.wr W14 (Or.inl (List.mem_of_getElem? (i := 0) rfl))
          obtain ⟨T15, h15, X15, e15, W15, st15⟩ := own_putFR X14 hx hZ hown (hw _ (List.mem_of_getElem? (i := 80) rfl)) e14 c14_F_aL_lastDeclared c14_E_aL (hw _ (List.mem_of_getElem? (i := 81) rfl)) (hw _ (List.mem_of_getElem? (i := 65) rfl)) (ty := .int) (by decide) rfl rfl (g := (mkF m 55 #[.val (.ref ar), .val (.int p1), .val (.ref aL)] [(.int p1), (.ref aL)])) rfl rfl (hb hby d10_55)
          have c15_E_aL := c14_E_aL.wr W15
          have c15_F_aL_number := c14_F_aL_number.other W15 (Or.inr (slot_ne (Or.inl (hw _ (List.mem_of_getElem? (i := 75) rfl))) (Or.inl (hw _ (List.mem_of_getElem? (i := 81) rfl))) (by decide) (t := .int) (t' := .int) (by decide) (by decide)))
          have c15_F_aL_record := c14_F_aL_record.other W15 (Or.inr (slot_ne (Or.inl (hw _ (List.mem_of_getElem? (i := 77) rfl))) (Or.inl (hw _ (List.mem_of_getElem? (i := 81) rfl))) (by decide) (t := (.object "com/example/kindgen/kindgen/runtime/RecordShape")) (t' := .int) (by decide) (by decide)))
          have c15_F_aL_start := c14_F_aL_start.other W15 (Or.inr (slot_ne (Or.inl (hw _ (List.mem_of_getElem? (i := 79) rfl))) (Or.inl (hw _ (List.mem_of_getElem? (i := 81) rfl))) (by decide) (t := .long) (t' := .int) (by decide) (by decide)))
          have c15_F_aL_lastDeclared := c14_F_aL_lastDeclared.same W15
          have c15_F_aL_kept := c14_F_aL_kept.other W15 (Or.inr (slot_ne (Or.inl (hw _ (List.mem_of_getElem? (i := 83) rfl))) (Or.inl (hw _ (List.mem_of_getElem? (i := 81) rfl))) (by decide) (t := .boolean) (t' := .int) (by decide) (by decide)))
          have c15_F_aL_out := c14_F_aL_out.other W15 (Or.inr (slot_ne (Or.inl (hw _ (List.mem_of_getElem? (i := 85) rfl))) (Or.inl (hw _ (List.mem_of_getElem? (i := 81) rfl))) (by decide) (t := .boolean) (t' := .int) (by decide) (by decide)))
          have N15 := Fr.snoc X15 N14 g_aL
          have K15 : Keep h0 h15 [aL] := K14.wr W15 (Or.inl (List.mem_of_getElem? (i := 0) rfl))
          obtain ⟨fs, hr, hrun, hended, hW, hsame⟩ := X15.leave (v := none) (fun _ => rfl)
          refine ⟨_, _, pre12 _ ?_, hrun, hended, _, _, rfl, ?_, ⟨_, rfl⟩, hW, hsame.mono (by decide) (by decide)⟩
          · show Steps p.tables e below (T11.setTop (mkF m 41 #[.val (.ref ar), .val (.int p1), .val (.ref aL)] [(.int ls), (.int p1), (.int (0 : Int32)), (.ref aL)])) _
            refine XS.icmpNo X11.here hx rfl (hb hby d10_41) rfl (tlt hc41_13).2.1 ?_
            refine XS.iconst X11.here hx rfl (hb hby d10_44) ?_
            refine XS.goto X11.here hx rfl (pc0 := 45) (pc' := 49) rfl (hb hby d10_45) (by decide) (by decide) ?_
            show Steps p.tables e below (T11.setTop (mkF m 49 #[.val (.ref ar), .val (.int p1), .val (.ref aL)] [(.int (1 : Int32)), (.int (0 : Int32)), (.ref aL)])) _
            refine XS.ior X11.here hx rfl (hb hby d10_49) rfl ?_
            show Steps p.tables e below (T11.setTop (mkF m 50 #[.val (.ref ar), .val (.int p1), .val (.ref aL)] [(.int (1 : Int32)), (.ref aL)])) _
            refine st14 _ ?_
            refine XS.aloadN X14.here hx rfl (hb hby d10_53) rfl rfl ?_
            refine XS.iloadN X14.here hx rfl (hb hby d10_54) rfl ?_
            show Steps p.tables e below (T14.setTop (mkF m 55 #[.val (.ref ar), .val (.int p1), .val (.ref aL)] [(.int p1), (.ref aL)])) _
            refine st15 _ ?_
            show Steps p.tables e below (T15.setTop (mkF m 58 #[.val (.ref ar), .val (.int p1), .val (.ref aL)] [])) _
            exact X15.returnOut hx Bd.returns (hb hby d10_58) hr
          · show Q10m0 Z ar p1 aset ahd alv kl aL sd hc nr ls kp ou u1 h0 n0 _ T15.heap _
            rw [e15]
            exact ⟨rfl, N15, K15, c15_E_aL, c15_F_aL_number, c15_F_aL_record, c15_F_aL_start, (by rw [show (own_ls p1 ls) = p1 from by simp [own_kp, own_ou, own_ls, ho, hc13_5, hc33_10, hc41_13]]; exact c15_F_aL_lastDeclared), (by rw [show (own_kp p1 kp) = kp from by simp [own_kp, own_ou, own_ls, ho, hc13_5, hc33_10, hc41_13]]; exact c15_F_aL_kept), (by rw [show (own_ou p1 kp ls ou) = (1 : Int32) from by simp [own_kp, own_ou, own_ls, ho, hc13_5, hc33_10, hc41_13]]; exact c15_F_aL_out)⟩
        · obtain ⟨T16, h16, X16, e16, W16, st16⟩ := own_putFR X11 hx hZ hown (hw _ (List.mem_of_getElem? (i := 84) rfl)) e11 Fo E_aL (hw _ (List.mem_of_getElem? (i := 85) rfl)) (hw _ (List.mem_of_getElem? (i := 65) rfl)) (ty := .boolean) (by decide) rfl rfl (g := (mkF m 50 #[.val (.ref ar), .val (.int p1), .val (.ref aL)] [(.int (0 : Int32)), (.ref aL)])) rfl rfl (hb hby d10_50)
          have c16_E_aL := E_aL.wr W16
          have c16_F_aL_number := F_aL_number.other W16 (Or.inr (slot_ne (Or.inl (hw _ (List.mem_of_getElem? (i := 75) rfl))) (Or.inl (hw _ (List.mem_of_getElem? (i := 85) rfl))) (by decide) (t := .int) (t' := .boolean) (by decide) (by decide)))
          have c16_F_aL_record := F_aL_record.other W16 (Or.inr (slot_ne (Or.inl (hw _ (List.mem_of_getElem? (i := 77) rfl))) (Or.inl (hw _ (List.mem_of_getElem? (i := 85) rfl))) (by decide) (t := (.object "com/example/kindgen/kindgen/runtime/RecordShape")) (t' := .boolean) (by decide) (by decide)))
          have c16_F_aL_start := F_aL_start.other W16 (Or.inr (slot_ne (Or.inl (hw _ (List.mem_of_getElem? (i := 79) rfl))) (Or.inl (hw _ (List.mem_of_getElem? (i := 85) rfl))) (by decide) (t := .long) (t' := .boolean) (by decide) (by decide)))
          have c16_F_aL_lastDeclared := F_aL_lastDeclared.other W16 (Or.inr (slot_ne (Or.inl (hw _ (List.mem_of_getElem? (i := 81) rfl))) (Or.inl (hw _ (List.mem_of_getElem? (i := 85) rfl))) (by decide) (t := .int) (t' := .boolean) (by decide) (by decide)))
          have c16_F_aL_kept := F_aL_kept.other W16 (Or.inr (slot_ne (Or.inl (hw _ (List.mem_of_getElem? (i := 83) rfl))) (Or.inl (hw _ (List.mem_of_getElem? (i := 85) rfl))) (by decide) (t := .boolean) (t' := .boolean) (by decide) (by decide)))
          have c16_F_aL_out := Fo.same W16
          have N16 := Fr.snoc X16 N0 g_aL
          have K16 : Keep h0 h16 [aL] := K0.wr W16 (Or.inl (List.mem_of_getElem? (i := 0) rfl))
          obtain ⟨T17, h17, X17, e17, W17, st17⟩ := own_putFR X16 hx hZ hown (hw _ (List.mem_of_getElem? (i := 80) rfl)) e16 c16_F_aL_lastDeclared c16_E_aL (hw _ (List.mem_of_getElem? (i := 81) rfl)) (hw _ (List.mem_of_getElem? (i := 65) rfl)) (ty := .int) (by decide) rfl rfl (g := (mkF m 55 #[.val (.ref ar), .val (.int p1), .val (.ref aL)] [(.int p1), (.ref aL)])) rfl rfl (hb hby d10_55)
          have c17_E_aL := c16_E_aL.wr W17
          have c17_F_aL_number := c16_F_aL_number.other W17 (Or.inr (slot_ne (Or.inl (hw _ (List.mem_of_getElem? (i := 75) rfl))) (Or.inl (hw _ (List.mem_of_getElem? (i := 81) rfl))) (by decide) (t := .int) (t' := .int) (by decide) (by decide)))
          have c17_F_aL_record := c16_F_aL_record.other W17 (Or.inr (slot_ne (Or.inl (hw _ (List.mem_of_getElem? (i := 77) rfl))) (Or.inl (hw _ (List.mem_of_getElem? (i := 81) rfl))) (by decide) (t := (.object "com/example/kindgen/kindgen/runtime/RecordShape")) (t' := .int) (by decide) (by decide)))
          have c17_F_aL_start := c16_F_aL_start.other W17 (Or.inr (slot_ne (Or.inl (hw _ (List.mem_of_getElem? (i := 79) rfl))) (Or.inl (hw _ (List.mem_of_getElem? (i := 81) rfl))) (by decide) (t := .long) (t' := .int) (by decide) (by decide)))
          have c17_F_aL_lastDeclared := c16_F_aL_lastDeclared.same W17
          have c17_F_aL_kept := c16_F_aL_kept.other W17 (Or.inr (slot_ne (Or.inl (hw _ (List.mem_of_getElem? (i := 83) rfl))) (Or.inl (hw _ (List.mem_of_getElem? (i := 81) rfl))) (by decide) (t := .boolean) (t' := .int) (by decide) (by decide)))
          have c17_F_aL_out := c16_F_aL_out.other W17 (Or.inr (slot_ne (Or.inl (hw _ (List.mem_of_getElem? (i := 85) rfl))) (Or.inl (hw _ (List.mem_of_getElem? (i := 81) rfl))) (by decide) (t := .boolean) (t' := .int) (by decide) (by decide)))
          have N17 := Fr.snoc X17 N16 g_aL
          have K17 : Keep h0 h17 [aL] := K16.wr W17 (Or.inl (List.mem_of_getElem? (i := 0) rfl))
          obtain ⟨fs, hr, hrun, hended, hW, hsame⟩ := X17.leave (v := none) (fun _ => rfl)
          refine ⟨_, _, pre12 _ ?_, hrun, hended, _, _, rfl, ?_, ⟨_, rfl⟩, hW, hsame.mono (by decide) (by decide)⟩
          · show Steps p.tables e below (T11.setTop (mkF m 41 #[.val (.ref ar), .val (.int p1), .val (.ref aL)] [(.int ls), (.int p1), (.int (0 : Int32)), (.ref aL)])) _
            refine XS.icmpYes X11.here hx rfl (pc0 := 41) (pc' := 48) rfl (hb hby d10_41) rfl (flt hc41_13).2.1 (by decide) (by decide) ?_
            refine XS.iconst X11.here hx rfl (hb hby d10_48) ?_
            show Steps p.tables e below (T11.setTop (mkF m 49 #[.val (.ref ar), .val (.int p1), .val (.ref aL)] [(.int (0 : Int32)), (.int (0 : Int32)), (.ref aL)])) _
            refine XS.ior X11.here hx rfl (hb hby d10_49) rfl ?_
            show Steps p.tables e below (T11.setTop (mkF m 50 #[.val (.ref ar), .val (.int p1), .val (.ref aL)] [(.int (0 : Int32)), (.ref aL)])) _
            refine st16 _ ?_
            refine XS.aloadN X16.here hx rfl (hb hby d10_53) rfl rfl ?_
            refine XS.iloadN X16.here hx rfl (hb hby d10_54) rfl ?_
            show Steps p.tables e below (T16.setTop (mkF m 55 #[.val (.ref ar), .val (.int p1), .val (.ref aL)] [(.int p1), (.ref aL)])) _
            refine st17 _ ?_
            show Steps p.tables e below (T17.setTop (mkF m 58 #[.val (.ref ar), .val (.int p1), .val (.ref aL)] [])) _
            exact X17.returnOut hx Bd.returns (hb hby d10_58) hr
          · show Q10m0 Z ar p1 aset ahd alv kl aL sd hc nr ls kp ou u1 h0 n0 _ T17.heap _
            rw [e17]
            exact ⟨rfl, N17, K17, c17_E_aL, c17_F_aL_number, c17_F_aL_record, c17_F_aL_start, (by rw [show (own_ls p1 ls) = p1 from by simp [own_kp, own_ou, own_ls, ho, hc13_5, hc33_10, hc41_13]]; exact c17_F_aL_lastDeclared), (by rw [show (own_kp p1 kp) = kp from by simp [own_kp, own_ou, own_ls, ho, hc13_5, hc33_10, hc41_13]]; exact c17_F_aL_kept), (by rw [show (own_ou p1 kp ls ou) = (0 : Int32) from by simp [own_kp, own_ou, own_ls, ho, hc13_5, hc33_10, hc41_13]]; exact c17_F_aL_out)⟩
      · obtain ⟨T18, h18, X18, e18, W18, st18⟩ := own_putFR X8 hx hZ hown (hw _ (List.mem_of_getElem? (i := 84) rfl)) e8 Fo E_aL (hw _ (List.mem_of_getElem? (i := 85) rfl)) (hw _ (List.mem_of_getElem? (i := 65) rfl)) (ty := .boolean) (by decide) rfl rfl (g := (mkF m 50 #[.val (.ref ar), .val (.int p1), .val (.ref aL)] [(.int (1 : Int32)), (.ref aL)])) rfl rfl (hb hby d10_50)
        have c18_E_aL := E_aL.wr W18
        have c18_F_aL_number := F_aL_number.other W18 (Or.inr (slot_ne (Or.inl (hw _ (List.mem_of_getElem? (i := 75) rfl))) (Or.inl (hw _ (List.mem_of_getElem? (i := 85) rfl))) (by decide) (t := .int) (t' := .boolean) (by decide) (by decide)))
        have c18_F_aL_record := F_aL_record.other W18 (Or.inr (slot_ne (Or.inl (hw _ (List.mem_of_getElem? (i := 77) rfl))) (Or.inl (hw _ (List.mem_of_getElem? (i := 85) rfl))) (by decide) (t := (.object "com/example/kindgen/kindgen/runtime/RecordShape")) (t' := .boolean) (by decide) (by decide)))
        have c18_F_aL_start := F_aL_start.other W18 (Or.inr (slot_ne (Or.inl (hw _ (List.mem_of_getElem? (i := 79) rfl))) (Or.inl (hw _ (List.mem_of_getElem? (i := 85) rfl))) (by decide) (t := .long) (t' := .boolean) (by decide) (by decide)))
        have c18_F_aL_lastDeclared := F_aL_lastDeclared.other W18 (Or.inr (slot_ne (Or.inl (hw _ (List.mem_of_getElem? (i := 81) rfl))) (Or.inl (hw _ (List.mem_of_getElem? (i := 85) rfl))) (by decide) (t := .int) (t' := .boolean) (by decide) (by decide)))
        have c18_F_aL_kept := F_aL_kept.other W18 (Or.inr (slot_ne (Or.inl (hw _ (List.mem_of_getElem? (i := 83) rfl))) (Or.inl (hw _ (List.mem_of_getElem? (i := 85) rfl))) (by decide) (t := .boolean) (t' := .boolean) (by decide) (by decide)))
        have c18_F_aL_out := Fo.same W18
        have N18 := Fr.snoc X18 N0 g_aL
        have K18 : Keep h0 h18 [aL] := K0.wr W18 (Or.inl (List.mem_of_getElem? (i := 0) rfl))
        obtain ⟨T19, h19, X19, e19, W19, st19⟩ := own_putFR X18 hx hZ hown (hw _ (List.mem_of_getElem? (i := 80) rfl)) e18 c18_F_aL_lastDeclared c18_E_aL (hw _ (List.mem_of_getElem? (i := 81) rfl)) (hw _ (List.mem_of_getElem? (i := 65) rfl)) (ty := .int) (by decide) rfl rfl (g := (mkF m 55 #[.val (.ref ar), .val (.int p1), .val (.ref aL)] [(.int p1), (.ref aL)])) rfl rfl (hb hby d10_55)
        have c19_E_aL := c18_E_aL.wr W19
        have c19_F_aL_number := c18_F_aL_number.other W19 (Or.inr (slot_ne (Or.inl (hw _ (List.mem_of_getElem? (i := 75) rfl))) (Or.inl (hw _ (List.mem_of_getElem? (i := 81) rfl))) (by decide) (t := .int) (t' := .int) (by decide) (by decide)))
        have c19_F_aL_record := c18_F_aL_record.other W19 (Or.inr (slot_ne (Or.inl (hw _ (List.mem_of_getElem? (i := 77) rfl))) (Or.inl (hw _ (List.mem_of_getElem? (i := 81) rfl))) (by decide) (t := (.object "com/example/kindgen/kindgen/runtime/RecordShape")) (t' := .int) (by decide) (by decide)))
        have c19_F_aL_start := c18_F_aL_start.other W19 (Or.inr (slot_ne (Or.inl (hw _ (List.mem_of_getElem? (i := 79) rfl))) (Or.inl (hw _ (List.mem_of_getElem? (i := 81) rfl))) (by decide) (t := .long) (t' := .int) (by decide) (by decide)))
        have c19_F_aL_lastDeclared := c18_F_aL_lastDeclared.same W19
        have c19_F_aL_kept := c18_F_aL_kept.other W19 (Or.inr (slot_ne (Or.inl (hw _ (List.mem_of_getElem? (i := 83) rfl))) (Or.inl (hw _ (List.mem_of_getElem? (i := 81) rfl))) (by decide) (t := .boolean) (t' := .int) (by decide) (by decide)))
        have c19_F_aL_out := c18_F_aL_out.other W19 (Or.inr (slot_ne (Or.inl (hw _ (List.mem_of_getElem? (i := 85) rfl))) (Or.inl (hw _ (List.mem_of_getElem? (i := 81) rfl))) (by decide) (t := .boolean) (t' := .int) (by decide) (by decide)))
        have N19 := Fr.snoc X19 N18 g_aL
        have K19 : Keep h0 h19 [aL] := K18.wr W19 (Or.inl (List.mem_of_getElem? (i := 0) rfl))
        obtain ⟨fs, hr, hrun, hended, hW, hsame⟩ := X19.leave (v := none) (fun _ => rfl)
        refine ⟨_, _, pre9 _ ?_, hrun, hended, _, _, rfl, ?_, ⟨_, rfl⟩, hW, hsame.mono (by decide) (by decide)⟩
        · show Steps p.tables e below (T8.setTop (mkF m 33 #[.val (.ref ar), .val (.int p1), .val (.ref aL)] [(.int kp), (.int (0 : Int32)), (.ref aL)])) _
          refine XS.ifYes X8.here hx rfl (pc0 := 33) (pc' := 44) rfl (hb hby d10_33) rfl ((if0 _ _).trans (feq hc33_10).2) (by decide) (by decide) ?_
          refine XS.iconst X8.here hx rfl (hb hby d10_44) ?_
          refine XS.goto X8.here hx rfl (pc0 := 45) (pc' := 49) rfl (hb hby d10_45) (by decide) (by decide) ?_
          show Steps p.tables e below (T8.setTop (mkF m 49 #[.val (.ref ar), .val (.int p1), .val (.ref aL)] [(.int (1 : Int32)), (.int (0 : Int32)), (.ref aL)])) _
          refine XS.ior X8.here hx rfl (hb hby d10_49) rfl ?_
          show Steps p.tables e below (T8.setTop (mkF m 50 #[.val (.ref ar), .val (.int p1), .val (.ref aL)] [(.int (1 : Int32)), (.ref aL)])) _
          refine st18 _ ?_
          refine XS.aloadN X18.here hx rfl (hb hby d10_53) rfl rfl ?_
          refine XS.iloadN X18.here hx rfl (hb hby d10_54) rfl ?_
          show Steps p.tables e below (T18.setTop (mkF m 55 #[.val (.ref ar), .val (.int p1), .val (.ref aL)] [(.int p1), (.ref aL)])) _
          refine st19 _ ?_
          show Steps p.tables e below (T19.setTop (mkF m 58 #[.val (.ref ar), .val (.int p1), .val (.ref aL)] [])) _
          exact X19.returnOut hx Bd.returns (hb hby d10_58) hr
        · show Q10m0 Z ar p1 aset ahd alv kl aL sd hc nr ls kp ou u1 h0 n0 _ T19.heap _
          rw [e19]
          exact ⟨rfl, N19, K19, c19_E_aL, c19_F_aL_number, c19_F_aL_record, c19_F_aL_start, (by rw [show (own_ls p1 ls) = p1 from by simp [own_kp, own_ou, own_ls, ho, hc13_5, hc33_10]]; exact c19_F_aL_lastDeclared), (by rw [show (own_kp p1 kp) = kp from by simp [own_kp, own_ou, own_ls, ho, hc13_5, hc33_10]]; exact c19_F_aL_kept), (by rw [show (own_ou p1 kp ls ou) = (1 : Int32) from by simp [own_kp, own_ou, own_ls, ho, hc13_5, hc33_10]]; exact c19_F_aL_out)⟩
  · have Fo : Fld Z h0 aL "com/example/kindgen/kindgen/core/document/RecordOrder$Level" "out" "Z" (.int (1 : Int32)) := by rw [← ho]; exact F_aL_out
    obtain ⟨T20, X20, e20, st20⟩ := getF X0 hx hZ hown (host := "") (Or.inl (hw _ (List.mem_of_getElem? (i := 54) rfl))) Via.refl e0 F_ar_levels (g := (mkF m 1 #[.val (.ref ar), .val (.int p1), .unset] [(.ref ar)])) rfl rfl (hb hby d10_1)
    obtain ⟨T21, X21, e21, st21⟩ := getF X20 hx hZ hown (host := "") (Or.inl (hw _ (List.mem_of_getElem? (i := 63) rfl))) Via.refl e20 F_ar_depth (g := (mkF m 5 #[.val (.ref ar), .val (.int p1), .unset] [(.ref ar), (.ref alv)])) rfl rfl (hb hby d10_5)
    obtain ⟨cl_22, Ar_22, -, S_22, N_22, H_22, -⟩ := id V_alv
    have hin_22 : ¬ ((0 : Int32) < 0 ∨ cl_22.slots.size ≤ ((0 : Int32)).toNatClampNeg) := inb_of S_22 ⟨by decide, by decide⟩
    have hat_22 : cl_22.slots[((0 : Int32)).toNatClampNeg]? = some (.ref aL) := Has.at H_22 hin_22 rfl
    have pre23 : ∀ t, Steps p.tables e below (T21.setTop (mkF m 13 #[.val (.ref ar), .val (.int p1), .val (.ref aL)] [(.int p1)])) t → Steps p.tables e below (s₁.setTop (entryFrame m #[(.ref ar), (.int p1)] 3)) t := by
      intro t k
      refine pre0 t ?_
      show Steps p.tables e below (s₁.setTop (mkF m 0 #[.val (.ref ar), .val (.int p1), .unset] [])) _
      refine XS.aloadN X0.here hx rfl (hb hby d10_0) rfl rfl ?_
      show Steps p.tables e below (s₁.setTop (mkF m 1 #[.val (.ref ar), .val (.int p1), .unset] [(.ref ar)])) _
      refine st20 _ ?_
      refine XS.aloadN X20.here hx rfl (hb hby d10_4) rfl rfl ?_
      show Steps p.tables e below (T20.setTop (mkF m 5 #[.val (.ref ar), .val (.int p1), .unset] [(.ref ar), (.ref alv)])) _
      refine st21 _ ?_
      refine XS.iconst X21.here hx rfl (hb hby d10_8) ?_
      show Steps p.tables e below (T21.setTop (mkF m 9 #[.val (.ref ar), .val (.int p1), .unset] [(.int (1 : Int32)), (.int (1 : Int32)), (.ref alv)])) _
      refine XS.isub X21.here hx rfl (hb hby d10_9) rfl ?_
      show Steps p.tables e below (T21.setTop (mkF m 10 #[.val (.ref ar), .val (.int p1), .unset] [(.int (0 : Int32)), (.ref alv)])) _
      refine X21.aaload hx (j := (0 : Int32)) (v := (.ref aL)) (by rw [e21]; exact Ar_22.1) (State.isArrayOf_alike hZ.alike Ar_22.2.1) rfl Ar_22.2.2 hin_22 hat_22 (g := (mkF m 10 #[.val (.ref ar), .val (.int p1), .unset] [(.int (0 : Int32)), (.ref alv)])) rfl rfl (hb hby d10_10) _ ?_
      show Steps p.tables e below (T21.setTop (mkF m 11 #[.val (.ref ar), .val (.int p1), .unset] [(.ref aL)])) _
      refine XS.astoreN X21.here hx rfl (hb hby d10_11) rfl rfl (l' := #[.val (.ref ar), .val (.int p1), .val (.ref aL)]) rfl ?_
      refine XS.iloadN X21.here hx rfl (hb hby d10_12) rfl ?_
      exact k
    by_cases hc13_24 : p1 < (0 : Int32)
    · obtain ⟨T25, h25, X25, e25, W25, st25⟩ := own_putFR X21 hx hZ hown (hw _ (List.mem_of_getElem? (i := 82) rfl)) e21 F_aL_kept E_aL (hw _ (List.mem_of_getElem? (i := 83) rfl)) (hw _ (List.mem_of_getElem? (i := 65) rfl)) (ty := .boolean) (by decide) rfl rfl (g := (mkF m 18 #[.val (.ref ar), .val (.int p1), .val (.ref aL)] [(.int (1 : Int32)), (.ref aL)])) rfl rfl (hb hby d10_18)
      have c25_E_aL := E_aL.wr W25
      have c25_F_aL_number := F_aL_number.other W25 (Or.inr (slot_ne (Or.inl (hw _ (List.mem_of_getElem? (i := 75) rfl))) (Or.inl (hw _ (List.mem_of_getElem? (i := 83) rfl))) (by decide) (t := .int) (t' := .boolean) (by decide) (by decide)))
      have c25_F_aL_record := F_aL_record.other W25 (Or.inr (slot_ne (Or.inl (hw _ (List.mem_of_getElem? (i := 77) rfl))) (Or.inl (hw _ (List.mem_of_getElem? (i := 83) rfl))) (by decide) (t := (.object "com/example/kindgen/kindgen/runtime/RecordShape")) (t' := .boolean) (by decide) (by decide)))
      have c25_F_aL_start := F_aL_start.other W25 (Or.inr (slot_ne (Or.inl (hw _ (List.mem_of_getElem? (i := 79) rfl))) (Or.inl (hw _ (List.mem_of_getElem? (i := 83) rfl))) (by decide) (t := .long) (t' := .boolean) (by decide) (by decide)))
      have c25_F_aL_lastDeclared := F_aL_lastDeclared.other W25 (Or.inr (slot_ne (Or.inl (hw _ (List.mem_of_getElem? (i := 81) rfl))) (Or.inl (hw _ (List.mem_of_getElem? (i := 83) rfl))) (by decide) (t := .int) (t' := .boolean) (by decide) (by decide)))
      have c25_F_aL_kept := F_aL_kept.same W25
      have c25_F_aL_out := Fo.other W25 (Or.inr (slot_ne (Or.inl (hw _ (List.mem_of_getElem? (i := 85) rfl))) (Or.inl (hw _ (List.mem_of_getElem? (i := 83) rfl))) (by decide) (t := .boolean) (t' := .boolean) (by decide) (by decide)))
      have N25 := Fr.snoc X25 N0 g_aL
      have K25 : Keep h0 h25 [aL] := K0.wr W25 (Or.inl (List.mem_of_getElem? (i := 0) rfl))
      obtain ⟨fs, hr, hrun, hended, hW, hsame⟩ := X25.leave (v := none) (fun _ => rfl)
      refine ⟨_, _, pre23 _ ?_, hrun, hended, _, _, rfl, ?_, ⟨_, rfl⟩, hW, hsame.mono (by decide) (by decide)⟩
      · show Steps p.tables e below (T21.setTop (mkF m 13 #[.val (.ref ar), .val (.int p1), .val (.ref aL)] [(.int p1)])) _
        refine XS.ifNo X21.here hx rfl (hb hby d10_13) rfl ((if0 _ _).trans (tlt hc13_24).2.1) ?_
        refine XS.aloadN X21.here hx rfl (hb hby d10_16) rfl rfl ?_
        refine XS.iconst X21.here hx rfl (hb hby d10_17) ?_
        show Steps p.tables e below (T21.setTop (mkF m 18 #[.val (.ref ar), .val (.int p1), .val (.ref aL)] [(.int (1 : Int32)), (.ref aL)])) _
        refine st25 _ ?_
        refine XS.goto X25.here hx rfl (pc0 := 21) (pc' := 58) rfl (hb hby d10_21) (by decide) (by decide) ?_
        show Steps p.tables e below (T25.setTop (mkF m 58 #[.val (.ref ar), .val (.int p1), .val (.ref aL)] [])) _
        exact X25.returnOut hx Bd.returns (hb hby d10_58) hr
      · show Q10m0 Z ar p1 aset ahd alv kl aL sd hc nr ls kp ou u1 h0 n0 _ T25.heap _
        rw [e25]
        exact ⟨rfl, N25, K25, c25_E_aL, c25_F_aL_number, c25_F_aL_record, c25_F_aL_start, (by rw [show (own_ls p1 ls) = ls from by simp [own_kp, own_ou, own_ls, ho, hc13_24]]; exact c25_F_aL_lastDeclared), (by rw [show (own_kp p1 kp) = (1 : Int32) from by simp [own_kp, own_ou, own_ls, ho, hc13_24]]; exact c25_F_aL_kept), (by rw [show (own_ou p1 kp ls ou) = (1 : Int32) from by simp [own_kp, own_ou, own_ls, ho, hc13_24]]; exact c25_F_aL_out)⟩
    · obtain ⟨T26, X26, e26, st26⟩ := own_getFR X21 hx hZ hown (hw _ (List.mem_of_getElem? (i := 84) rfl)) e21 Fo (g := (mkF m 26 #[.val (.ref ar), .val (.int p1), .val (.ref aL)] [(.ref aL), (.ref aL)])) rfl rfl (hb hby d10_26)
      obtain ⟨T27, X27, e27, st27⟩ := own_getFR X26 hx hZ hown (hw _ (List.mem_of_getElem? (i := 82) rfl)) e26 F_aL_kept (g := (mkF m 30 #[.val (.ref ar), .val (.int p1), .val (.ref aL)] [(.ref aL), (.int (1 : Int32)), (.ref aL)])) rfl rfl (hb hby d10_30)
      have pre28 : ∀ t, Steps p.tables e below (T27.setTop (mkF m 33 #[.val (.ref ar), .val (.int p1), .val (.ref aL)] [(.int kp), (.int (1 : Int32)), (.ref aL)])) t → Steps p.tables e below (s₁.setTop (entryFrame m #[(.ref ar), (.int p1)] 3)) t := by
        intro t k
        refine pre23 t ?_
        show Steps p.tables e below (T21.setTop (mkF m 13 #[.val (.ref ar), .val (.int p1), .val (.ref aL)] [(.int p1)])) _
        refine XS.ifYes X21.here hx rfl (pc0 := 13) (pc' := 24) rfl (hb hby d10_13) rfl ((if0 _ _).trans (flt hc13_24).2.1) (by decide) (by decide) ?_
        refine XS.aloadN X21.here hx rfl (hb hby d10_24) rfl rfl ?_
        show Steps p.tables e below (T21.setTop (mkF m 25 #[.val (.ref ar), .val (.int p1), .val (.ref aL)] [(.ref aL)])) _
        refine XS.dup X21.here hx rfl (hb hby d10_25) rfl rfl ?_
        show Steps p.tables e below (T21.setTop (mkF m 26 #[.val (.ref ar), .val (.int p1), .val (.ref aL)] [(.ref aL), (.ref aL)])) _
        refine st26 _ ?_
        refine XS.aloadN X26.here hx rfl (hb hby d10_29) rfl rfl ?_
        show Steps p.tables e below (T26.setTop (mkF m 30 #[.val (.ref ar), .val (.int p1), .val (.ref aL)] [(.ref aL), (.int (1 : Int32)), (.ref aL)])) _
        refine st27 _ ?_
        exact k
      by_cases hc33_29 : kp = (0 : Int32)
      · obtain ⟨T30, X30, e30, st30⟩ := own_getFR X27 hx hZ hown (hw _ (List.mem_of_getElem? (i := 80) rfl)) e27 F_aL_lastDeclared (g := (mkF m 38 #[.val (.ref ar), .val (.int p1), .val (.ref aL)] [(.ref aL), (.int p1), (.int (1 : Int32)), (.ref aL)])) rfl rfl (hb hby d10_38)
        have pre31 : ∀ t, Steps p.tables e below (T30.setTop (mkF m 41 #[.val (.ref ar), .val (.int p1), .val (.ref aL)] [(.int ls), (.int p1), (.int (1 : Int32)), (.ref aL)])) t → Steps p.tables e below (s₁.setTop (entryFrame m #[(.ref ar), (.int p1)] 3)) t := by
          intro t k
          refine pre28 t ?_
          show Steps p.tables e below (T27.setTop (mkF m 33 #[.val (.ref ar), .val (.int p1), .val (.ref aL)] [(.int kp), (.int (1 : Int32)), (.ref aL)])) _
          refine XS.ifNo X27.here hx rfl (hb hby d10_33) rfl ((if0 _ _).trans (teq hc33_29).2) ?_
          refine XS.iloadN X27.here hx rfl (hb hby d10_36) rfl ?_
          refine XS.aloadN X27.here hx rfl (hb hby d10_37) rfl rfl ?_
          show Steps p.tables e below (T27.setTop (mkF m 38 #[.val (.ref ar), .val (.int p1), .val (.ref aL)] [(.ref aL), (.int p1), (.int (1 : Int32)), (.ref aL)])) _
          refine st30 _ ?_
          exact k
        by_cases hc41_32 : p1 < ls
        · obtain ⟨T33, h33, X33, e33, W33, st33⟩ := own_putFR X30 hx hZ hown (hw _ (List.mem_of_getElem? (i := 84) rfl)) e30 Fo E_aL (hw _ (List.mem_of_getElem? (i := 85) rfl)) (hw _ (List.mem_of_getElem? (i := 65) rfl)) (ty := .boolean) (by decide) rfl rfl (g := (mkF m 50 #[.val (.ref ar), .val (.int p1), .val (.ref aL)] [(.int (1 : Int32)), (.ref aL)])) rfl rfl (hb hby d10_50)
          have c33_E_aL := E_aL.wr W33
          have c33_F_aL_number := F_aL_number.other W33 (Or.inr (slot_ne (Or.inl (hw _ (List.mem_of_getElem? (i := 75) rfl))) (Or.inl (hw _ (List.mem_of_getElem? (i := 85) rfl))) (by decide) (t := .int) (t' := .boolean) (by decide) (by decide)))
          have c33_F_aL_record := F_aL_record.other W33 (Or.inr (slot_ne (Or.inl (hw _ (List.mem_of_getElem? (i := 77) rfl))) (Or.inl (hw _ (List.mem_of_getElem? (i := 85) rfl))) (by decide) (t := (.object "com/example/kindgen/kindgen/runtime/RecordShape")) (t' := .boolean) (by decide) (by decide)))
          have c33_F_aL_start := F_aL_start.other W33 (Or.inr (slot_ne (Or.inl (hw _ (List.mem_of_getElem? (i := 79) rfl))) (Or.inl (hw _ (List.mem_of_getElem? (i := 85) rfl))) (by decide) (t := .long) (t' := .boolean) (by decide) (by decide)))
          have c33_F_aL_lastDeclared := F_aL_lastDeclared.other W33 (Or.inr (slot_ne (Or.inl (hw _ (List.mem_of_getElem? (i := 81) rfl))) (Or.inl (hw _ (List.mem_of_getElem? (i := 85) rfl))) (by decide) (t := .int) (t' := .boolean) (by decide) (by decide)))
          have c33_F_aL_kept := F_aL_kept.other W33 (Or.inr (slot_ne (Or.inl (hw _ (List.mem_of_getElem? (i := 83) rfl))) (Or.inl (hw _ (List.mem_of_getElem? (i := 85) rfl))) (by decide) (t := .boolean) (t' := .boolean) (by decide) (by decide)))
          have c33_F_aL_out := Fo.same W33
          have N33 := Fr.snoc X33 N0 g_aL
          have K33 : Keep h0 h33 [aL] := K0.wr W33 (Or.inl (List.mem_of_getElem? (i := 0) rfl))
          obtain ⟨T34, h34, X34, e34, W34, st34⟩ := own_putFR X33 hx hZ hown (hw _ (List.mem_of_getElem? (i := 80) rfl)) e33 c33_F_aL_lastDeclared c33_E_aL (hw _ (List.mem_of_getElem? (i := 81) rfl)) (hw _ (List.mem_of_getElem? (i := 65) rfl)) (ty := .int) (by decide) rfl rfl (g := (mkF m 55 #[.val (.ref ar), .val (.int p1), .val (.ref aL)] [(.int p1), (.ref aL)])) rfl rfl (hb hby d10_55)
          have c34_E_aL := c33_E_aL.wr W34
          have c34_F_aL_number := c33_F_aL_number.other W34 (Or.inr (slot_ne (Or.inl (hw _ (List.mem_of_getElem? (i := 75) rfl))) (Or.inl (hw _ (List.mem_of_getElem? (i := 81) rfl))) (by decide) (t := .int) (t' := .int) (by decide) (by decide)))
          have c34_F_aL_record := c33_F_aL_record.other W34 (Or.inr (slot_ne (Or.inl (hw _ (List.mem_of_getElem? (i := 77) rfl))) (Or.inl (hw _ (List.mem_of_getElem? (i := 81) rfl))) (by decide) (t := (.object "com/example/kindgen/kindgen/runtime/RecordShape")) (t' := .int) (by decide) (by decide)))
          have c34_F_aL_start := c33_F_aL_start.other W34 (Or.inr (slot_ne (Or.inl (hw _ (List.mem_of_getElem? (i := 79) rfl))) (Or.inl (hw _ (List.mem_of_getElem? (i := 81) rfl))) (by decide) (t := .long) (t' := .int) (by decide) (by decide)))
          have c34_F_aL_lastDeclared := c33_F_aL_lastDeclared.same W34
          have c34_F_aL_kept := c33_F_aL_kept.other W34 (Or.inr (slot_ne (Or.inl (hw _ (List.mem_of_getElem? (i := 83) rfl))) (Or.inl (hw _ (List.mem_of_getElem? (i := 81) rfl))) (by decide) (t := .boolean) (t' := .int) (by decide) (by decide)))
          have c34_F_aL_out := c33_F_aL_out.other W34 (Or.inr (slot_ne (Or.inl (hw _ (List.mem_of_getElem? (i := 85) rfl))) (Or.inl (hw _ (List.mem_of_getElem? (i := 81) rfl))) (by decide) (t := .boolean) (t' := .int) (by decide) (by decide)))
          have N34 := Fr.snoc X34 N33 g_aL
          have K34 : Keep h0 h34 [aL] := K33.wr W34 (Or.inl (List.mem_of_getElem? (i := 0) rfl))
          obtain ⟨fs, hr, hrun, hended, hW, hsame⟩ := X34.leave (v := none) (fun _ => rfl)
          refine ⟨_, _, pre31 _ ?_, hrun, hended, _, _, rfl, ?_, ⟨_, rfl⟩, hW, hsame.mono (by decide) (by decide)⟩
          · show Steps p.tables e below (T30.setTop (mkF m 41 #[.val (.ref ar), .val (.int p1), .val (.ref aL)] [(.int ls), (.int p1), (.int (1 : Int32)), (.ref aL)])) _
            refine XS.icmpNo X30.here hx rfl (hb hby d10_41) rfl (tlt hc41_32).2.1 ?_
            refine XS.iconst X30.here hx rfl (hb hby d10_44) ?_
            refine XS.goto X30.here hx rfl (pc0 := 45) (pc' := 49) rfl (hb hby d10_45) (by decide) (by decide) ?_
            show Steps p.tables e below (T30.setTop (mkF m 49 #[.val (.ref ar), .val (.int p1), .val (.ref aL)] [(.int (1 : Int32)), (.int (1 : Int32)), (.ref aL)])) _
            refine XS.ior X30.here hx rfl (hb hby d10_49) rfl ?_
            show Steps p.tables e below (T30.setTop (mkF m 50 #[.val (.ref ar), .val (.int p1), .val (.ref aL)] [(.int (1 : Int32)), (.ref aL)])) _
            refine st33 _ ?_
            refine XS.aloadN X33.here hx rfl (hb hby d10_53) rfl rfl ?_
            refine XS.iloadN X33.here hx rfl (hb hby d10_54) rfl ?_
            show Steps p.tables e below (T33.setTop (mkF m 55 #[.val (.ref ar), .val (.int p1), .val (.ref aL)] [(.int p1), (.ref aL)])) _
            refine st34 _ ?_
            show Steps p.tables e below (T34.setTop (mkF m 58 #[.val (.ref ar), .val (.int p1), .val (.ref aL)] [])) _
            exact X34.returnOut hx Bd.returns (hb hby d10_58) hr
          · show Q10m0 Z ar p1 aset ahd alv kl aL sd hc nr ls kp ou u1 h0 n0 _ T34.heap _
            rw [e34]
            exact ⟨rfl, N34, K34, c34_E_aL, c34_F_aL_number, c34_F_aL_record, c34_F_aL_start, (by rw [show (own_ls p1 ls) = p1 from by simp [own_kp, own_ou, own_ls, ho, hc13_24, hc33_29, hc41_32]]; exact c34_F_aL_lastDeclared), (by rw [show (own_kp p1 kp) = kp from by simp [own_kp, own_ou, own_ls, ho, hc13_24, hc33_29, hc41_32]]; exact c34_F_aL_kept), (by rw [show (own_ou p1 kp ls ou) = (1 : Int32) from by simp [own_kp, own_ou, own_ls, ho, hc13_24, hc33_29, hc41_32]]; exact c34_F_aL_out)⟩
        · obtain ⟨T35, h35, X35, e35, W35, st35⟩ := own_putFR X30 hx hZ hown (hw _ (List.mem_of_getElem? (i := 84) rfl)) e30 Fo E_aL (hw _ (List.mem_of_getElem? (i := 85) rfl)) (hw _ (List.mem_of_getElem? (i := 65) rfl)) (ty := .boolean) (by decide) rfl rfl (g := (mkF m 50 #[.val (.ref ar), .val (.int p1), .val (.ref aL)] [(.int (1 : Int32)), (.ref aL)])) rfl rfl (hb hby d10_50)
          have c35_E_aL := E_aL.wr W35
          have c35_F_aL_number := F_aL_number.other W35 (Or.inr (slot_ne (Or.inl (hw _ (List.mem_of_getElem? (i := 75) rfl))) (Or.inl (hw _ (List.mem_of_getElem? (i := 85) rfl))) (by decide) (t := .int) (t' := .boolean) (by decide) (by decide)))
          have c35_F_aL_record := F_aL_record.other W35 (Or.inr (slot_ne (Or.inl (hw _ (List.mem_of_getElem? (i := 77) rfl))) (Or.inl (hw _ (List.mem_of_getElem? (i := 85) rfl))) (by decide) (t := (.object "com/example/kindgen/kindgen/runtime/RecordShape")) (t' := .boolean) (by decide) (by decide)))
          have c35_F_aL_start := F_aL_start.other W35 (Or.inr (slot_ne (Or.inl (hw _ (List.mem_of_getElem? (i := 79) rfl))) (Or.inl (hw _ (List.mem_of_getElem? (i := 85) rfl))) (by decide) (t := .long) (t' := .boolean) (by decide) (by decide)))
          have c35_F_aL_lastDeclared := F_aL_lastDeclared.other W35 (Or.inr (slot_ne (Or.inl (hw _ (List.mem_of_getElem? (i := 81) rfl))) (Or.inl (hw _ (List.mem_of_getElem? (i := 85) rfl))) (by decide) (t := .int) (t' := .boolean) (by decide) (by decide)))
          have c35_F_aL_kept := F_aL_kept.other W35 (Or.inr (slot_ne (Or.inl (hw _ (List.mem_of_getElem? (i := 83) rfl))) (Or.inl (hw _ (List.mem_of_getElem? (i := 85) rfl))) (by decide) (t := .boolean) (t' := .boolean) (by decide) (by decide)))
          have c35_F_aL_out := Fo.same W35
          have N35 := Fr.snoc X35 N0 g_aL
          have K35 : Keep h0 h35 [aL] := K0.wr W35 (Or.inl (List.mem_of_getElem? (i := 0) rfl))
          obtain ⟨T36, h36, X36, e36, W36, st36⟩ := own_putFR X35 hx hZ hown (hw _ (List.mem_of_getElem? (i := 80) rfl)) e35 c35_F_aL_lastDeclared c35_E_aL (hw _ (List.mem_of_getElem? (i := 81) rfl)) (hw _ (List.mem_of_getElem? (i := 65) rfl)) (ty := .int) (by decide) rfl rfl (g := (mkF m 55 #[.val (.ref ar), .val (.int p1), .val (.ref aL)] [(.int p1), (.ref aL)])) rfl rfl (hb hby d10_55)
          have c36_E_aL := c35_E_aL.wr W36
          have c36_F_aL_number := c35_F_aL_number.other W36 (Or.inr (slot_ne (Or.inl (hw _ (List.mem_of_getElem? (i := 75) rfl))) (Or.inl (hw _ (List.mem_of_getElem? (i := 81) rfl))) (by decide) (t := .int) (t' := .int) (by decide) (by decide)))
          have c36_F_aL_record := c35_F_aL_record.other W36 (Or.inr (slot_ne (Or.inl (hw _ (List.mem_of_getElem? (i := 77) rfl))) (Or.inl (hw _ (List.mem_of_getElem? (i := 81) rfl))) (by decide) (t := (.object "com/example/kindgen/kindgen/runtime/RecordShape")) (t' := .int) (by decide) (by decide)))
          have c36_F_aL_start := c35_F_aL_start.other W36 (Or.inr (slot_ne (Or.inl (hw _ (List.mem_of_getElem? (i := 79) rfl))) (Or.inl (hw _ (List.mem_of_getElem? (i := 81) rfl))) (by decide) (t := .long) (t' := .int) (by decide) (by decide)))
          have c36_F_aL_lastDeclared := c35_F_aL_lastDeclared.same W36
          have c36_F_aL_kept := c35_F_aL_kept.other W36 (Or.inr (slot_ne (Or.inl (hw _ (List.mem_of_getElem? (i := 83) rfl))) (Or.inl (hw _ (List.mem_of_getElem? (i := 81) rfl))) (by decide) (t := .boolean) (t' := .int) (by decide) (by decide)))
          have c36_F_aL_out := c35_F_aL_out.other W36 (Or.inr (slot_ne (Or.inl (hw _ (List.mem_of_getElem? (i := 85) rfl))) (Or.inl (hw _ (List.mem_of_getElem? (i := 81) rfl))) (by decide) (t := .boolean) (t' := .int) (by decide) (by decide)))
          have N36 := Fr.snoc X36 N35 g_aL
          have K36 : Keep h0 h36 [aL] := K35.wr W36 (Or.inl (List.mem_of_getElem? (i := 0) rfl))
          obtain ⟨fs, hr, hrun, hended, hW, hsame⟩ := X36.leave (v := none) (fun _ => rfl)
          refine ⟨_, _, pre31 _ ?_, hrun, hended, _, _, rfl, ?_, ⟨_, rfl⟩, hW, hsame.mono (by decide) (by decide)⟩
          · show Steps p.tables e below (T30.setTop (mkF m 41 #[.val (.ref ar), .val (.int p1), .val (.ref aL)] [(.int ls), (.int p1), (.int (1 : Int32)), (.ref aL)])) _
            refine XS.icmpYes X30.here hx rfl (pc0 := 41) (pc' := 48) rfl (hb hby d10_41) rfl (flt hc41_32).2.1 (by decide) (by decide) ?_
            refine XS.iconst X30.here hx rfl (hb hby d10_48) ?_
            show Steps p.tables e below (T30.setTop (mkF m 49 #[.val (.ref ar), .val (.int p1), .val (.ref aL)] [(.int (0 : Int32)), (.int (1 : Int32)), (.ref aL)])) _
            refine XS.ior X30.here hx rfl (hb hby d10_49) rfl ?_
            show Steps p.tables e below (T30.setTop (mkF m 50 #[.val (.ref ar), .val (.int p1), .val (.ref aL)] [(.int (1 : Int32)), (.ref aL)])) _
            refine st35 _ ?_
            refine XS.aloadN X35.here hx rfl (hb hby d10_53) rfl rfl ?_
            refine XS.iloadN X35.here hx rfl (hb hby d10_54) rfl ?_
            show Steps p.tables e below (T35.setTop (mkF m 55 #[.val (.ref ar), .val (.int p1), .val (.ref aL)] [(.int p1), (.ref aL)])) _
            refine st36 _ ?_
            show Steps p.tables e below (T36.setTop (mkF m 58 #[.val (.ref ar), .val (.int p1), .val (.ref aL)] [])) _
            exact X36.returnOut hx Bd.returns (hb hby d10_58) hr
          · show Q10m0 Z ar p1 aset ahd alv kl aL sd hc nr ls kp ou u1 h0 n0 _ T36.heap _
            rw [e36]
            exact ⟨rfl, N36, K36, c36_E_aL, c36_F_aL_number, c36_F_aL_record, c36_F_aL_start, (by rw [show (own_ls p1 ls) = p1 from by simp [own_kp, own_ou, own_ls, ho, hc13_24, hc33_29, hc41_32]]; exact c36_F_aL_lastDeclared), (by rw [show (own_kp p1 kp) = kp from by simp [own_kp, own_ou, own_ls, ho, hc13_24, hc33_29, hc41_32]]; exact c36_F_aL_kept), (by rw [show (own_ou p1 kp ls ou) = (1 : Int32) from by simp [own_kp, own_ou, own_ls, ho, hc13_24, hc33_29, hc41_32]]; exact c36_F_aL_out)⟩
      · obtain ⟨T37, h37, X37, e37, W37, st37⟩ := own_putFR X27 hx hZ hown (hw _ (List.mem_of_getElem? (i := 84) rfl)) e27 Fo E_aL (hw _ (List.mem_of_getElem? (i := 85) rfl)) (hw _ (List.mem_of_getElem? (i := 65) rfl)) (ty := .boolean) (by decide) rfl rfl (g := (mkF m 50 #[.val (.ref ar), .val (.int p1), .val (.ref aL)] [(.int (1 : Int32)), (.ref aL)])) rfl rfl (hb hby d10_50)
        have c37_E_aL := E_aL.wr W37
        have c37_F_aL_number := F_aL_number.other W37 (Or.inr (slot_ne (Or.inl (hw _ (List.mem_of_getElem? (i := 75) rfl))) (Or.inl (hw _ (List.mem_of_getElem? (i := 85) rfl))) (by decide) (t := .int) (t' := .boolean) (by decide) (by decide)))
        have c37_F_aL_record := F_aL_record.other W37 (Or.inr (slot_ne (Or.inl (hw _ (List.mem_of_getElem? (i := 77) rfl))) (Or.inl (hw _ (List.mem_of_getElem? (i := 85) rfl))) (by decide) (t := (.object "com/example/kindgen/kindgen/runtime/RecordShape")) (t' := .boolean) (by decide) (by decide)))
        have c37_F_aL_start := F_aL_start.other W37 (Or.inr (slot_ne (Or.inl (hw _ (List.mem_of_getElem? (i := 79) rfl))) (Or.inl (hw _ (List.mem_of_getElem? (i := 85) rfl))) (by decide) (t := .long) (t' := .boolean) (by decide) (by decide)))
        have c37_F_aL_lastDeclared := F_aL_lastDeclared.other W37 (Or.inr (slot_ne (Or.inl (hw _ (List.mem_of_getElem? (i := 81) rfl))) (Or.inl (hw _ (List.mem_of_getElem? (i := 85) rfl))) (by decide) (t := .int) (t' := .boolean) (by decide) (by decide)))
        have c37_F_aL_kept := F_aL_kept.other W37 (Or.inr (slot_ne (Or.inl (hw _ (List.mem_of_getElem? (i := 83) rfl))) (Or.inl (hw _ (List.mem_of_getElem? (i := 85) rfl))) (by decide) (t := .boolean) (t' := .boolean) (by decide) (by decide)))
        have c37_F_aL_out := Fo.same W37
        have N37 := Fr.snoc X37 N0 g_aL
        have K37 : Keep h0 h37 [aL] := K0.wr W37 (Or.inl (List.mem_of_getElem? (i := 0) rfl))
        obtain ⟨T38, h38, X38, e38, W38, st38⟩ := own_putFR X37 hx hZ hown (hw _ (List.mem_of_getElem? (i := 80) rfl)) e37 c37_F_aL_lastDeclared c37_E_aL (hw _ (List.mem_of_getElem? (i := 81) rfl)) (hw _ (List.mem_of_getElem? (i := 65) rfl)) (ty := .int) (by decide) rfl rfl (g := (mkF m 55 #[.val (.ref ar), .val (.int p1), .val (.ref aL)] [(.int p1), (.ref aL)])) rfl rfl (hb hby d10_55)
        have c38_E_aL := c37_E_aL.wr W38
        have c38_F_aL_number := c37_F_aL_number.other W38 (Or.inr (slot_ne (Or.inl (hw _ (List.mem_of_getElem? (i := 75) rfl))) (Or.inl (hw _ (List.mem_of_getElem? (i := 81) rfl))) (by decide) (t := .int) (t' := .int) (by decide) (by decide)))
        have c38_F_aL_record := c37_F_aL_record.other W38 (Or.inr (slot_ne (Or.inl (hw _ (List.mem_of_getElem? (i := 77) rfl))) (Or.inl (hw _ (List.mem_of_getElem? (i := 81) rfl))) (by decide) (t := (.object "com/example/kindgen/kindgen/runtime/RecordShape")) (t' := .int) (by decide) (by decide)))
        have c38_F_aL_start := c37_F_aL_start.other W38 (Or.inr (slot_ne (Or.inl (hw _ (List.mem_of_getElem? (i := 79) rfl))) (Or.inl (hw _ (List.mem_of_getElem? (i := 81) rfl))) (by decide) (t := .long) (t' := .int) (by decide) (by decide)))
        have c38_F_aL_lastDeclared := c37_F_aL_lastDeclared.same W38
        have c38_F_aL_kept := c37_F_aL_kept.other W38 (Or.inr (slot_ne (Or.inl (hw _ (List.mem_of_getElem? (i := 83) rfl))) (Or.inl (hw _ (List.mem_of_getElem? (i := 81) rfl))) (by decide) (t := .boolean) (t' := .int) (by decide) (by decide)))
        have c38_F_aL_out := c37_F_aL_out.other W38 (Or.inr (slot_ne (Or.inl (hw _ (List.mem_of_getElem? (i := 85) rfl))) (Or.inl (hw _ (List.mem_of_getElem? (i := 81) rfl))) (by decide) (t := .boolean) (t' := .int) (by decide) (by decide)))
        have N38 := Fr.snoc X38 N37 g_aL
        have K38 : Keep h0 h38 [aL] := K37.wr W38 (Or.inl (List.mem_of_getElem? (i := 0) rfl))
        obtain ⟨fs, hr, hrun, hended, hW, hsame⟩ := X38.leave (v := none) (fun _ => rfl)
        refine ⟨_, _, pre28 _ ?_, hrun, hended, _, _, rfl, ?_, ⟨_, rfl⟩, hW, hsame.mono (by decide) (by decide)⟩
        · show Steps p.tables e below (T27.setTop (mkF m 33 #[.val (.ref ar), .val (.int p1), .val (.ref aL)] [(.int kp), (.int (1 : Int32)), (.ref aL)])) _
          refine XS.ifYes X27.here hx rfl (pc0 := 33) (pc' := 44) rfl (hb hby d10_33) rfl ((if0 _ _).trans (feq hc33_29).2) (by decide) (by decide) ?_
          refine XS.iconst X27.here hx rfl (hb hby d10_44) ?_
          refine XS.goto X27.here hx rfl (pc0 := 45) (pc' := 49) rfl (hb hby d10_45) (by decide) (by decide) ?_
          show Steps p.tables e below (T27.setTop (mkF m 49 #[.val (.ref ar), .val (.int p1), .val (.ref aL)] [(.int (1 : Int32)), (.int (1 : Int32)), (.ref aL)])) _
          refine XS.ior X27.here hx rfl (hb hby d10_49) rfl ?_
          show Steps p.tables e below (T27.setTop (mkF m 50 #[.val (.ref ar), .val (.int p1), .val (.ref aL)] [(.int (1 : Int32)), (.ref aL)])) _
          refine st37 _ ?_
          refine XS.aloadN X37.here hx rfl (hb hby d10_53) rfl rfl ?_
          refine XS.iloadN X37.here hx rfl (hb hby d10_54) rfl ?_
          show Steps p.tables e below (T37.setTop (mkF m 55 #[.val (.ref ar), .val (.int p1), .val (.ref aL)] [(.int p1), (.ref aL)])) _
          refine st38 _ ?_
          show Steps p.tables e below (T38.setTop (mkF m 58 #[.val (.ref ar), .val (.int p1), .val (.ref aL)] [])) _
          exact X38.returnOut hx Bd.returns (hb hby d10_58) hr
        · show Q10m0 Z ar p1 aset ahd alv kl aL sd hc nr ls kp ou u1 h0 n0 _ T38.heap _
          rw [e38]
          exact ⟨rfl, N38, K38, c38_E_aL, c38_F_aL_number, c38_F_aL_record, c38_F_aL_start, (by rw [show (own_ls p1 ls) = p1 from by simp [own_kp, own_ou, own_ls, ho, hc13_24, hc33_29]]; exact c38_F_aL_lastDeclared), (by rw [show (own_kp p1 kp) = kp from by simp [own_kp, own_ou, own_ls, ho, hc13_24, hc33_29]]; exact c38_F_aL_kept), (by rw [show (own_ou p1 kp ls ou) = (1 : Int32) from by simp [own_kp, own_ou, own_ls, ho, hc13_24, hc33_29]]; exact c38_F_aL_out)⟩
def Q10m1 (Z : State) (ar : Addr) (p1 : Int32) (aset : Addr) (ahd : Addr) (alv : Addr) (kl : ClassId) (aL : Addr) (sd : Int32) (hc : Int32) (nr : Int32) (ls : Int32) (kp : Int32) (ou : Int32) (u0 : Value) (h0 : Heap) (n0 : Nat) (v : Option Value) (h : Heap) (L : List Loc) : Prop := v = none ∧ Fr n0 L ∧ Keep h0 h [aL] ∧ Exa Z h aL "com/example/kindgen/kindgen/core/document/RecordOrder$Level" ∧ Fld Z h aL "com/example/kindgen/kindgen/core/document/RecordOrder$Level" "number" "I" (.int nr) ∧ Fld Z h aL "com/example/kindgen/kindgen/core/document/RecordOrder$Level" "record" "Lcom/example/kindgen/kindgen/runtime/RecordShape;" .null ∧ Fld Z h aL "com/example/kindgen/kindgen/core/document/RecordOrder$Level" "start" "J" (.long (0 : Int64)) ∧ Fld Z h aL "com/example/kindgen/kindgen/core/document/RecordOrder$Level" "lastDeclared" "I" (.int (own_ls p1 ls)) ∧ Fld Z h aL "com/example/kindgen/kindgen/core/document/RecordOrder$Level" "kept" "Z" (.int (own_kp p1 kp)) ∧ Fld Z h aL "com/example/kindgen/kindgen/core/document/RecordOrder$Level" "out" "Z" (.int (own_ou p1 kp ls ou))
set_option maxRecDepth 65536 in
set_option maxHeartbeats 40000000 in
theorem rm10m1 (l : Launch) (Z : State) (a0 : Array Value) (hw : ∀ d ∈ tables_1, d.before a0 Z = true) (ws : List Jvm.Cond) (ar : Addr) (p1 : Int32) (aset : Addr) (ahd : Addr) (alv : Addr) (kl : ClassId) (aL : Addr) (sd : Int32) (hc : Int32) (nr : Int32) (ls : Int32) (kp : Int32) (ou : Int32) (u0 : Value) (h0 : Heap) (n0 : Nat) (Z0 : n0 ≤ h0.size) (ho : ou = 0 ∨ ou = 1) (E_ar : Exa Z h0 ar "com/example/kindgen/kindgen/core/document/RecordOrder") (F_ar_outOfOrder : Fld Z h0 ar "com/example/kindgen/kindgen/core/document/RecordOrder" "outOfOrder" "Ljava/util/Set;" (.ref aset)) (F_ar_held : Fld Z h0 ar "com/example/kindgen/kindgen/core/document/RecordOrder" "held" "[I" (.ref ahd)) (F_ar_levels : Fld Z h0 ar "com/example/kindgen/kindgen/core/document/RecordOrder" "levels" "[Lcom/example/kindgen/kindgen/core/document/RecordOrder$Level;" (.ref alv)) (F_ar_longBytes : Fld Z h0 ar "com/example/kindgen/kindgen/core/document/RecordOrder" "longBytes" "J" (.long (0 : Int64))) (F_ar_depth : Fld Z h0 ar "com/example/kindgen/kindgen/core/document/RecordOrder" "depth" "I" (.int (2 : Int32))) (F_ar_started : Fld Z h0 ar "com/example/kindgen/kindgen/core/document/RecordOrder" "started" "I" (.int sd)) (F_ar_heldCount : Fld Z h0 ar "com/example/kindgen/kindgen/core/document/RecordOrder" "heldCount" "I" (.int hc)) (E_aL : Exa Z h0 aL "com/example/kindgen/kindgen/core/document/RecordOrder$Level") (F_aL_number : Fld Z h0 aL "com/example/kindgen/kindgen/core/document/RecordOrder$Level" "number" "I" (.int nr)) (F_aL_record : Fld Z h0 aL "com/example/kindgen/kindgen/core/document/RecordOrder$Level" "record" "Lcom/example/kindgen/kindgen/runtime/RecordShape;" .null) (F_aL_start : Fld Z h0 aL "com/example/kindgen/kindgen/core/document/RecordOrder$Level" "start" "J" (.long (0 : Int64))) (F_aL_lastDeclared : Fld Z h0 aL "com/example/kindgen/kindgen/core/document/RecordOrder$Level" "lastDeclared" "I" (.int ls)) (F_aL_kept : Fld Z h0 aL "com/example/kindgen/kindgen/core/document/RecordOrder$Level" "kept" "Z" (.int kp)) (F_aL_out : Fld Z h0 aL "com/example/kindgen/kindgen/core/document/RecordOrder$Level" "out" "Z" (.int ou)) (V_alv : Arv Z h0 alv kl (.object "com/example/kindgen/kindgen/core/document/RecordOrder$Level") (16 : Int32) [u0, (.ref aL), .null, .null, .null, .null, .null, .null, .null, .null, .null, .null, .null, .null, .null, .null] .null) (Ov_alv : Ovr Z kl "com/example/kindgen/kindgen/core/document/RecordOrder$Level") (ne_ar_aL : ar ≠ aL) (ne_ar_alv : ar ≠ alv) (ne_aL_alv : aL ≠ alv) (g_aL : n0 ≤ aL) :
    MetFree l (⟨"com/example/kindgen/kindgen/core/document/RecordOrder", "member", "(I)V"⟩ : MethodName) (head1 (Jvm.Cond.code (⟨"com/example/kindgen/kindgen/core/document/RecordOrder", "member", "(I)V"⟩ : MethodName) prog_72_method_5_code 3 none :: ws) ({ frames := 0, cells := 0, slots := 0, locals := 0 } : Room)) (fun a U => a = #[(.ref ar), (.int p1)] ∧ Z.Warmed39 U.vm ∧ U.heap = h0) (fun _ _ _ _ _ => True) (fun _ U o U' => ∃ v L, o = .returned v ∧ Q10m1 Z ar p1 aset ahd alv kl aL sd hc nr ls kp ou u0 h0 n0 v U'.heap L ∧ FrameEnd U o U' L ({ frames := 0, cells := 0, slots := 0, locals := 0 } : Room).cells ({ frames := 0, cells := 0, slots := 0, locals := 0 } : Room).slots) := by
  refine MetFree.of_bodySF (plainFor_of_name pn_10) hisR ?_
  intro p e s m args below meth c s₁ Bd hml0 hP hK
  obtain ⟨rfl, hZ, hh⟩ := hP
  have hx := Bd.exec
  have hby := Bd.bytes
  have hown : s.vm.findClass "com/example/kindgen/kindgen/core/document/RecordOrder" = some m.cls := findClass_of_methodNamed Bd.named
  have X0 : Stand p l e ({ frames := 0, cells := 0, slots := 0, locals := 0 } : Room) s m #[(.ref ar), (.int p1)] below meth c s₁ [] 0 0 := Stand.of_body Bd
  have e0 : s₁.heap = h0 := by rw [← hh, Bd.state]; rfl
  have N0 := Fr.nil n0
  have pre0 : ∀ t, Steps p.tables e below (s₁.setTop (mkF m 0 #[.val (.ref ar), .val (.int p1), .unset] [])) t → Steps p.tables e below (s₁.setTop (entryFrame m #[(.ref ar), (.int p1)] 3)) t := fun t k => castTop (ef_10 m ar p1) k
  have K0 : Keep h0 h0 [aL] := Keep.refl h0 _
  rcases ho with ho | ho
  · have Fo : Fld Z h0 aL "com/example/kindgen/kindgen/core/document/RecordOrder$Level" "out" "Z" (.int (0 : Int32)) := by rw [← ho]; exact F_aL_out
    obtain ⟨T1, X1, e1, st1⟩ := getF X0 hx hZ hown (host := "") (Or.inl (hw _ (List.mem_of_getElem? (i := 54) rfl))) Via.refl e0 F_ar_levels (g := (mkF m 1 #[.val (.ref ar), .val (.int p1), .unset] [(.ref ar)])) rfl rfl (hb hby d10_1)
    obtain ⟨T2, X2, e2, st2⟩ := getF X1 hx hZ hown (host := "") (Or.inl (hw _ (List.mem_of_getElem? (i := 63) rfl))) Via.refl e1 F_ar_depth (g := (mkF m 5 #[.val (.ref ar), .val (.int p1), .unset] [(.ref ar), (.ref alv)])) rfl rfl (hb hby d10_5)
    obtain ⟨cl_3, Ar_3, -, S_3, N_3, H_3, -⟩ := id V_alv
    have hin_3 : ¬ ((1 : Int32) < 0 ∨ cl_3.slots.size ≤ ((1 : Int32)).toNatClampNeg) := inb_of S_3 ⟨by decide, by decide⟩
    have hat_3 : cl_3.slots[((1 : Int32)).toNatClampNeg]? = some (.ref aL) := Has.at H_3 hin_3 rfl
    have pre4 : ∀ t, Steps p.tables e below (T2.setTop (mkF m 13 #[.val (.ref ar), .val (.int p1), .val (.ref aL)] [(.int p1)])) t → Steps p.tables e below (s₁.setTop (entryFrame m #[(.ref ar), (.int p1)] 3)) t := by
      intro t k
      refine pre0 t ?_
      show Steps p.tables e below (s₁.setTop (mkF m 0 #[.val (.ref ar), .val (.int p1), .unset] [])) _
      refine XS.aloadN X0.here hx rfl (hb hby d10_0) rfl rfl ?_
      show Steps p.tables e below (s₁.setTop (mkF m 1 #[.val (.ref ar), .val (.int p1), .unset] [(.ref ar)])) _
      refine st1 _ ?_
      refine XS.aloadN X1.here hx rfl (hb hby d10_4) rfl rfl ?_
      show Steps p.tables e below (T1.setTop (mkF m 5 #[.val (.ref ar), .val (.int p1), .unset] [(.ref ar), (.ref alv)])) _
      refine st2 _ ?_
      refine XS.iconst X2.here hx rfl (hb hby d10_8) ?_
      show Steps p.tables e below (T2.setTop (mkF m 9 #[.val (.ref ar), .val (.int p1), .unset] [(.int (1 : Int32)), (.int (2 : Int32)), (.ref alv)])) _
      refine XS.isub X2.here hx rfl (hb hby d10_9) rfl ?_
      show Steps p.tables e below (T2.setTop (mkF m 10 #[.val (.ref ar), .val (.int p1), .unset] [(.int (1 : Int32)), (.ref alv)])) _
      refine X2.aaload hx (j := (1 : Int32)) (v := (.ref aL)) (by rw [e2]; exact Ar_3.1) (State.isArrayOf_alike hZ.alike Ar_3.2.1) rfl Ar_3.2.2 hin_3 hat_3 (g := (mkF m 10 #[.val (.ref ar), .val (.int p1), .unset] [(.int (1 : Int32)), (.ref alv)])) rfl rfl (hb hby d10_10) _ ?_
      show Steps p.tables e below (T2.setTop (mkF m 11 #[.val (.ref ar), .val (.int p1), .unset] [(.ref aL)])) _
      refine XS.astoreN X2.here hx rfl (hb hby d10_11) rfl rfl (l' := #[.val (.ref ar), .val (.int p1), .val (.ref aL)]) rfl ?_
      refine XS.iloadN X2.here hx rfl (hb hby d10_12) rfl ?_
      exact k
    by_cases hc13_5 : p1 < (0 : Int32)
    · obtain ⟨T6, h6, X6, e6, W6, st6⟩ := own_putFR X2 hx hZ hown (hw _ (List.mem_of_getElem? (i := 82) rfl)) e2 F_aL_kept E_aL (hw _ (List.mem_of_getElem? (i := 83) rfl)) (hw _ (List.mem_of_getElem? (i := 65) rfl)) (ty := .boolean) (by decide) rfl rfl (g := (mkF m 18 #[.val (.ref ar), .val (.int p1), .val (.ref aL)] [(.int (1 : Int32)), (.ref aL)])) rfl rfl (hb hby d10_18)
      have c6_E_aL := E_aL.wr W6
      have c6_F_aL_number := F_aL_number.other W6 (Or.inr (slot_ne (Or.inl (hw _ (List.mem_of_getElem? (i := 75) rfl))) (Or.inl (hw _ (List.mem_of_getElem? (i := 83) rfl))) (by decide) (t := .int) (t' := .boolean) (by decide) (by decide)))
      have c6_F_aL_record := F_aL_record.other W6 (Or.inr (slot_ne (Or.inl (hw _ (List.mem_of_getElem? (i := 77) rfl))) (Or.inl (hw _ (List.mem_of_getElem? (i := 83) rfl))) (by decide) (t := (.object "com/example/kindgen/kindgen/runtime/RecordShape")) (t' := .boolean) (by decide) (by decide)))
      have c6_F_aL_start := F_aL_start.other W6 (Or.inr (slot_ne (Or.inl (hw _ (List.mem_of_getElem? (i := 79) rfl))) (Or.inl (hw _ (List.mem_of_getElem? (i := 83) rfl))) (by decide) (t := .long) (t' := .boolean) (by decide) (by decide)))
      have c6_F_aL_lastDeclared := F_aL_lastDeclared.other W6 (Or.inr (slot_ne (Or.inl (hw _ (List.mem_of_getElem? (i := 81) rfl))) (Or.inl (hw _ (List.mem_of_getElem? (i := 83) rfl))) (by decide) (t := .int) (t' := .boolean) (by decide) (by decide)))
      have c6_F_aL_kept := F_aL_kept.same W6
      have c6_F_aL_out := Fo.other W6 (Or.inr (slot_ne (Or.inl (hw _ (List.mem_of_getElem? (i := 85) rfl))) (Or.inl (hw _ (List.mem_of_getElem? (i := 83) rfl))) (by decide) (t := .boolean) (t' := .boolean) (by decide) (by decide)))
      have N6 := Fr.snoc X6 N0 g_aL
      have K6 : Keep h0 h6 [aL] := K0.wr W6 (Or.inl (List.mem_of_getElem? (i := 0) rfl))
      obtain ⟨fs, hr, hrun, hended, hW, hsame⟩ := X6.leave (v := none) (fun _ => rfl)
      refine ⟨_, _, pre4 _ ?_, hrun, hended, _, _, rfl, ?_, ⟨_, rfl⟩, hW, hsame.mono (by decide) (by decide)⟩
      · show Steps p.tables e below (T2.setTop (mkF m 13 #[.val (.ref ar), .val (.int p1), .val (.ref aL)] [(.int p1)])) _
        refine XS.ifNo X2.here hx rfl (hb hby d10_13) rfl ((if0 _ _).trans (tlt hc13_5).2.1) ?_
        refine XS.aloadN X2.here hx rfl (hb hby d10_16) rfl rfl ?_
        refine XS.iconst X2.here hx rfl (hb hby d10_17) ?_
        show Steps p.tables e below (T2.setTop (mkF m 18 #[.val (.ref ar), .val (.int p1), .val (.ref aL)] [(.int (1 : Int32)), (.ref aL)])) _
        refine st6 _ ?_
        refine XS.goto X6.here hx rfl (pc0 := 21) (pc' := 58) rfl (hb hby d10_21) (by decide) (by decide) ?_
        show Steps p.tables e below (T6.setTop (mkF m 58 #[.val (.ref ar), .val (.int p1), .val (.ref aL)] [])) _
        exact X6.returnOut hx Bd.returns (hb hby d10_58) hr
      · show Q10m1 Z ar p1 aset ahd alv kl aL sd hc nr ls kp ou u0 h0 n0 _ T6.heap _
        rw [e6]
        exact ⟨rfl, N6, K6, c6_E_aL, c6_F_aL_number, c6_F_aL_record, c6_F_aL_start, (by rw [show (own_ls p1 ls) = ls from by simp [own_kp, own_ou, own_ls, ho, hc13_5]]; exact c6_F_aL_lastDeclared), (by rw [show (own_kp p1 kp) = (1 : Int32) from by simp [own_kp, own_ou, own_ls, ho, hc13_5]]; exact c6_F_aL_kept), (by rw [show (own_ou p1 kp ls ou) = (0 : Int32) from by simp [own_kp, own_ou, own_ls, ho, hc13_5]]; exact c6_F_aL_out)⟩
    · obtain ⟨T7, X7, e7, st7⟩ := own_getFR X2 hx hZ hown (hw _ (List.mem_of_getElem? (i := 84) rfl)) e2 Fo (g := (mkF m 26 #[.val (.ref ar), .val (.int p1), .val (.ref aL)] [(.ref aL), (.ref aL)])) rfl rfl (hb hby d10_26)
      obtain ⟨T8, X8, e8, st8⟩ := own_getFR X7 hx hZ hown (hw _ (List.mem_of_getElem? (i := 82) rfl)) e7 F_aL_kept (g := (mkF m 30 #[.val (.ref ar), .val (.int p1), .val (.ref aL)] [(.ref aL), (.int (0 : Int32)), (.ref aL)])) rfl rfl (hb hby d10_30)
      have pre9 : ∀ t, Steps p.tables e below (T8.setTop (mkF m 33 #[.val (.ref ar), .val (.int p1), .val (.ref aL)] [(.int kp), (.int (0 : Int32)), (.ref aL)])) t → Steps p.tables e below (s₁.setTop (entryFrame m #[(.ref ar), (.int p1)] 3)) t := by
        intro t k
        refine pre4 t ?_
        show Steps p.tables e below (T2.setTop (mkF m 13 #[.val (.ref ar), .val (.int p1), .val (.ref aL)] [(.int p1)])) _
        refine XS.ifYes X2.here hx rfl (pc0 := 13) (pc' := 24) rfl (hb hby d10_13) rfl ((if0 _ _).trans (flt hc13_5).2.1) (by decide) (by decide) ?_
        refine XS.aloadN X2.here hx rfl (hb hby d10_24) rfl rfl ?_
        show Steps p.tables e below (T2.setTop (mkF m 25 #[.val (.ref ar), .val (.int p1), .val (.ref aL)] [(.ref aL)])) _
        refine XS.dup X2.here hx rfl (hb hby d10_25) rfl rfl ?_
        show Steps p.tables e below (T2.setTop (mkF m 26 #[.val (.ref ar), .val (.int p1), .val (.ref aL)] [(.ref aL), (.ref aL)])) _
        refine st7 _ ?_
        refine XS.aloadN X7.here hx rfl (hb hby d10_29) rfl rfl ?_
        show Steps p.tables e below (T7.setTop (mkF m 30 #[.val (.ref ar), .val (.int p1), .val (.ref aL)] [(.ref aL), (.int (0 : Int32)), (.ref aL)])) _
        refine st8 _ ?_
        exact k
      by_cases hc33_10 : kp = (0 : Int32)
      · obtain ⟨T11, X11, e11, st11⟩ := own_getFR X8 hx hZ hown (hw _ (List.mem_of_getElem? (i := 80) rfl)) e8 F_aL_lastDeclared (g := (mkF m 38 #[.val (.ref ar), .val (.int p1), .val (.ref aL)] [(.ref aL), (.int p1), (.int (0 : Int32)), (.ref aL)])) rfl rfl (hb hby d10_38)
        have pre12 : ∀ t, Steps p.tables e below (T11.setTop (mkF m 41 #[.val (.ref ar), .val (.int p1), .val (.ref aL)] [(.int ls), (.int p1), (.int (0 : Int32)), (.ref aL)])) t → Steps p.tables e below (s₁.setTop (entryFrame m #[(.ref ar), (.int p1)] 3)) t := by
          intro t k
          refine pre9 t ?_
          show Steps p.tables e below (T8.setTop (mkF m 33 #[.val (.ref ar), .val (.int p1), .val (.ref aL)] [(.int kp), (.int (0 : Int32)), (.ref aL)])) _
          refine XS.ifNo X8.here hx rfl (hb hby d10_33) rfl ((if0 _ _).trans (teq hc33_10).2) ?_
          refine XS.iloadN X8.here hx rfl (hb hby d10_36) rfl ?_
          refine XS.aloadN X8.here hx rfl (hb hby d10_37) rfl rfl ?_
          show Steps p.tables e below (T8.setTop (mkF m 38 #[.val (.ref ar), .val (.int p1), .val (.ref aL)] [(.ref aL), (.int p1), (.int (0 : Int32)), (.ref aL)])) _
          refine st11 _ ?_
          exact k
        by_cases hc41_13 : p1 < ls
        · obtain ⟨T14, h14, X14, e14, W14, st14⟩ := own_putFR X11 hx hZ hown (hw _ (List.mem_of_getElem? (i := 84) rfl)) e11 Fo E_aL (hw _ (List.mem_of_getElem? (i := 85) rfl)) (hw _ (List.mem_of_getElem? (i := 65) rfl)) (ty := .boolean) (by decide) rfl rfl (g := (mkF m 50 #[.val (.ref ar), .val (.int p1), .val (.ref aL)] [(.int (1 : Int32)), (.ref aL)])) rfl rfl (hb hby d10_50)
          have c14_E_aL := E_aL.wr W14
          have c14_F_aL_number := F_aL_number.other W14 (Or.inr (slot_ne (Or.inl (hw _ (List.mem_of_getElem? (i := 75) rfl))) (Or.inl (hw _ (List.mem_of_getElem? (i := 85) rfl))) (by decide) (t := .int) (t' := .boolean) (by decide) (by decide)))
          have c14_F_aL_record := F_aL_record.other W14 (Or.inr (slot_ne (Or.inl (hw _ (List.mem_of_getElem? (i := 77) rfl))) (Or.inl (hw _ (List.mem_of_getElem? (i := 85) rfl))) (by decide) (t := (.object "com/example/kindgen/kindgen/runtime/RecordShape")) (t' := .boolean) (by decide) (by decide)))
          have c14_F_aL_start := F_aL_start.other W14 (Or.inr (slot_ne (Or.inl (hw _ (List.mem_of_getElem? (i := 79) rfl))) (Or.inl (hw _ (List.mem_of_getElem? (i := 85) rfl))) (by decide) (t := .long) (t' := .boolean) (by decide) (by decide)))
          have c14_F_aL_lastDeclared := F_aL_lastDeclared.other W14 (Or.inr (slot_ne (Or.inl (hw _ (List.mem_of_getElem? (i := 81) rfl))) (Or.inl (hw _ (List.mem_of_getElem? (i := 85) rfl))) (by decide) (t := .int) (t' := .boolean) (by decide) (by decide)))
          have c14_F_aL_kept := F_aL_kept.other W14 (Or.inr (slot_ne (Or.inl (hw _ (List.mem_of_getElem? (i := 83) rfl))) (Or.inl (hw _ (List.mem_of_getElem? (i := 85) rfl))) (by decide) (t := .boolean) (t' := .boolean) (by decide) (by decide)))
          have c14_F_aL_out := Fo.same W14
          have N14 := Fr.snoc X14 N0 g_aL
          have K14 : Keep h0 h14 [aL] := K0.wr W14 (Or.inl (List.mem_of_getElem? (i := 0) rfl))
          obtain ⟨T15, h15, X15, e15, W15, st15⟩ := own_putFR X14 hx hZ hown (hw _ (List.mem_of_getElem? (i := 80) rfl)) e14 c14_F_aL_lastDeclared c14_E_aL (hw _ (List.mem_of_getElem? (i := 81) rfl)) (hw _ (List.mem_of_getElem? (i := 65) rfl)) (ty := .int) (by decide) rfl rfl (g := (mkF m 55 #[.val (.ref ar), .val (.int p1), .val (.ref aL)] [(.int p1), (.ref aL)])) rfl rfl (hb hby d10_55)
          have c15_E_aL := c14_E_aL.wr W15
          have c15_F_aL_number := c14_F_aL_number.other W15 (Or.inr (slot_ne (Or.inl (hw _ (List.mem_of_getElem? (i := 75) rfl))) (Or.inl (hw _ (List.mem_of_getElem? (i := 81) rfl))) (by decide) (t := .int) (t' := .int) (by decide) (by decide)))
          have c15_F_aL_record := c14_F_aL_record.other W15 (Or.inr (slot_ne (Or.inl (hw _ (List.mem_of_getElem? (i := 77) rfl))) (Or.inl (hw _ (List.mem_of_getElem? (i := 81) rfl))) (by decide) (t := (.object "com/example/kindgen/kindgen/runtime/RecordShape")) (t' := .int) (by decide) (by decide)))
          have c15_F_aL_start := c14_F_aL_start.other W15 (Or.inr (slot_ne (Or.inl (hw _ (List.mem_of_getElem? (i := 79) rfl))) (Or.inl (hw _ (List.mem_of_getElem? (i := 81) rfl))) (by decide) (t := .long) (t' := .int) (by decide) (by decide)))
          have c15_F_aL_lastDeclared := c14_F_aL_lastDeclared.same W15
          have c15_F_aL_kept := c14_F_aL_kept.other W15 (Or.inr (slot_ne (Or.inl (hw _ (List.mem_of_getElem? (i := 83) rfl))) (Or.inl (hw _ (List.mem_of_getElem? (i := 81) rfl))) (by decide) (t := .boolean) (t' := .int) (by decide) (by decide)))
          have c15_F_aL_out := c14_F_aL_out.other W15 (Or.inr (slot_ne (Or.inl (hw _ (List.mem_of_getElem? (i := 85) rfl))) (Or.inl (hw _ (List.mem_of_getElem? (i := 81) rfl))) (by decide) (t := .boolean) (t' := .int) (by decide) (by decide)))
          have N15 := Fr.snoc X15 N14 g_aL
          have K15 : Keep h0 h15 [aL] := K14.wr W15 (Or.inl (List.mem_of_getElem? (i := 0) rfl))
          obtain ⟨fs, hr, hrun, hended, hW, hsame⟩ := X15.leave (v := none) (fun _ => rfl)
          refine ⟨_, _, pre12 _ ?_, hrun, hended, _, _, rfl, ?_, ⟨_, rfl⟩, hW, hsame.mono (by decide) (by decide)⟩
          · show Steps p.tables e below (T11.setTop (mkF m 41 #[.val (.ref ar), .val (.int p1), .val (.ref aL)] [(.int ls), (.int p1), (.int (0 : Int32)), (.ref aL)])) _
            refine XS.icmpNo X11.here hx rfl (hb hby d10_41) rfl (tlt hc41_13).2.1 ?_
            refine XS.iconst X11.here hx rfl (hb hby d10_44) ?_
            refine XS.goto X11.here hx rfl (pc0 := 45) (pc' := 49) rfl (hb hby d10_45) (by decide) (by decide) ?_
            show Steps p.tables e below (T11.setTop (mkF m 49 #[.val (.ref ar), .val (.int p1), .val (.ref aL)] [(.int (1 : Int32)), (.int (0 : Int32)), (.ref aL)])) _
            refine XS.ior X11.here hx rfl (hb hby d10_49) rfl ?_
            show Steps p.tables e below (T11.setTop (mkF m 50 #[.val (.ref ar), .val (.int p1), .val (.ref aL)] [(.int (1 : Int32)), (.ref aL)])) _
            refine st14 _ ?_
            refine XS.aloadN X14.here hx rfl (hb hby d10_53) rfl rfl ?_
            refine XS.iloadN X14.here hx rfl (hb hby d10_54) rfl ?_
            show Steps p.tables e below (T14.setTop (mkF m 55 #[.val (.ref ar), .val (.int p1), .val (.ref aL)] [(.int p1), (.ref aL)])) _
            refine st15 _ ?_
            show Steps p.tables e below (T15.setTop (mkF m 58 #[.val (.ref ar), .val (.int p1), .val (.ref aL)] [])) _
            exact X15.returnOut hx Bd.returns (hb hby d10_58) hr
          · show Q10m1 Z ar p1 aset ahd alv kl aL sd hc nr ls kp ou u0 h0 n0 _ T15.heap _
            rw [e15]
            exact ⟨rfl, N15, K15, c15_E_aL, c15_F_aL_number, c15_F_aL_record, c15_F_aL_start, (by rw [show (own_ls p1 ls) = p1 from by simp [own_kp, own_ou, own_ls, ho, hc13_5, hc33_10, hc41_13]]; exact c15_F_aL_lastDeclared), (by rw [show (own_kp p1 kp) = kp from by simp [own_kp, own_ou, own_ls, ho, hc13_5, hc33_10, hc41_13]]; exact c15_F_aL_kept), (by rw [show (own_ou p1 kp ls ou) = (1 : Int32) from by simp [own_kp, own_ou, own_ls, ho, hc13_5, hc33_10, hc41_13]]; exact c15_F_aL_out)⟩
        · obtain ⟨T16, h16, X16, e16, W16, st16⟩ := own_putFR X11 hx hZ hown (hw _ (List.mem_of_getElem? (i := 84) rfl)) e11 Fo E_aL (hw _ (List.mem_of_getElem? (i := 85) rfl)) (hw _ (List.mem_of_getElem? (i := 65) rfl)) (ty := .boolean) (by decide) rfl rfl (g := (mkF m 50 #[.val (.ref ar), .val (.int p1), .val (.ref aL)] [(.int (0 : Int32)), (.ref aL)])) rfl rfl (hb hby d10_50)
          have c16_E_aL := E_aL.wr W16
          have c16_F_aL_number := F_aL_number.other W16 (Or.inr (slot_ne (Or.inl (hw _ (List.mem_of_getElem? (i := 75) rfl))) (Or.inl (hw _ (List.mem_of_getElem? (i := 85) rfl))) (by decide) (t := .int) (t' := .boolean) (by decide) (by decide)))
          have c16_F_aL_record := F_aL_record.other W16 (Or.inr (slot_ne (Or.inl (hw _ (List.mem_of_getElem? (i := 77) rfl))) (Or.inl (hw _ (List.mem_of_getElem? (i := 85) rfl))) (by decide) (t := (.object "com/example/kindgen/kindgen/runtime/RecordShape")) (t' := .boolean) (by decide) (by decide)))
          have c16_F_aL_start := F_aL_start.other W16 (Or.inr (slot_ne (Or.inl (hw _ (List.mem_of_getElem? (i := 79) rfl))) (Or.inl (hw _ (List.mem_of_getElem? (i := 85) rfl))) (by decide) (t := .long) (t' := .boolean) (by decide) (by decide)))
          have c16_F_aL_lastDeclared := F_aL_lastDeclared.other W16 (Or.inr (slot_ne (Or.inl (hw _ (List.mem_of_getElem? (i := 81) rfl))) (Or.inl (hw _ (List.mem_of_getElem? (i := 85) rfl))) (by decide) (t := .int) (t' := .boolean) (by decide) (by decide)))
          have c16_F_aL_kept := F_aL_kept.other W16 (Or.inr (slot_ne (Or.inl (hw _ (List.mem_of_getElem? (i := 83) rfl))) (Or.inl (hw _ (List.mem_of_getElem? (i := 85) rfl))) (by decide) (t := .boolean) (t' := .boolean) (by decide) (by decide)))
          have c16_F_aL_out := Fo.same W16
          have N16 := Fr.snoc X16 N0 g_aL
          have K16 : Keep h0 h16 [aL] := K0.wr W16 (Or.inl (List.mem_of_getElem? (i := 0) rfl))
          obtain ⟨T17, h17, X17, e17, W17, st17⟩ := own_putFR X16 hx hZ hown (hw _ (List.mem_of_getElem? (i := 80) rfl)) e16 c16_F_aL_lastDeclared c16_E_aL (hw _ (List.mem_of_getElem? (i := 81) rfl)) (hw _ (List.mem_of_getElem? (i := 65) rfl)) (ty := .int) (by decide) rfl rfl (g := (mkF m 55 #[.val (.ref ar), .val (.int p1), .val (.ref aL)] [(.int p1), (.ref aL)])) rfl rfl (hb hby d10_55)
          have c17_E_aL := c16_E_aL.wr W17
          have c17_F_aL_number := c16_F_aL_number.other W17 (Or.inr (slot_ne (Or.inl (hw _ (List.mem_of_getElem? (i := 75) rfl))) (Or.inl (hw _ (List.mem_of_getElem? (i := 81) rfl))) (by decide) (t := .int) (t' := .int) (by decide) (by decide)))
          have c17_F_aL_record := c16_F_aL_record.other W17 (Or.inr (slot_ne (Or.inl (hw _ (List.mem_of_getElem? (i := 77) rfl))) (Or.inl (hw _ (List.mem_of_getElem? (i := 81) rfl))) (by decide) (t := (.object "com/example/kindgen/kindgen/runtime/RecordShape")) (t' := .int) (by decide) (by decide)))
          have c17_F_aL_start := c16_F_aL_start.other W17 (Or.inr (slot_ne (Or.inl (hw _ (List.mem_of_getElem? (i := 79) rfl))) (Or.inl (hw _ (List.mem_of_getElem? (i := 81) rfl))) (by decide) (t := .long) (t' := .int) (by decide) (by decide)))
          have c17_F_aL_lastDeclared := c16_F_aL_lastDeclared.same W17
          have c17_F_aL_kept := c16_F_aL_kept.other W17 (Or.inr (slot_ne (Or.inl (hw _ (List.mem_of_getElem? (i := 83) rfl))) (Or.inl (hw _ (List.mem_of_getElem? (i := 81) rfl))) (by decide) (t := .boolean) (t' := .int) (by decide) (by decide)))
          have c17_F_aL_out := c16_F_aL_out.other W17 (Or.inr (slot_ne (Or.inl (hw _ (List.mem_of_getElem? (i := 85) rfl))) (Or.inl (hw _ (List.mem_of_getElem? (i := 81) rfl))) (by decide) (t := .boolean) (t' := .int) (by decide) (by decide)))
          have N17 := Fr.snoc X17 N16 g_aL
          have K17 : Keep h0 h17 [aL] := K16.wr W17 (Or.inl (List.mem_of_getElem? (i := 0) rfl))
          obtain ⟨fs, hr, hrun, hended, hW, hsame⟩ := X17.leave (v := none) (fun _ => rfl)
          refine ⟨_, _, pre12 _ ?_, hrun, hended, _, _, rfl, ?_, ⟨_, rfl⟩, hW, hsame.mono (by decide) (by decide)⟩
          · show Steps p.tables e below (T11.setTop (mkF m 41 #[.val (.ref ar), .val (.int p1), .val (.ref aL)] [(.int ls), (.int p1), (.int (0 : Int32)), (.ref aL)])) _
            refine XS.icmpYes X11.here hx rfl (pc0 := 41) (pc' := 48) rfl (hb hby d10_41) rfl (flt hc41_13).2.1 (by decide) (by decide) ?_
            refine XS.iconst X11.here hx rfl (hb hby d10_48) ?_
            show Steps p.tables e below (T11.setTop (mkF m 49 #[.val (.ref ar), .val (.int p1), .val (.ref aL)] [(.int (0 : Int32)), (.int (0 : Int32)), (.ref aL)])) _
            refine XS.ior X11.here hx rfl (hb hby d10_49) rfl ?_
            show Steps p.tables e below (T11.setTop (mkF m 50 #[.val (.ref ar), .val (.int p1), .val (.ref aL)] [(.int (0 : Int32)), (.ref aL)])) _
            refine st16 _ ?_
            refine XS.aloadN X16.here hx rfl (hb hby d10_53) rfl rfl ?_
            refine XS.iloadN X16.here hx rfl (hb hby d10_54) rfl ?_
            show Steps p.tables e below (T16.setTop (mkF m 55 #[.val (.ref ar), .val (.int p1), .val (.ref aL)] [(.int p1), (.ref aL)])) _
            refine st17 _ ?_
            show Steps p.tables e below (T17.setTop (mkF m 58 #[.val (.ref ar), .val (.int p1), .val (.ref aL)] [])) _
            exact X17.returnOut hx Bd.returns (hb hby d10_58) hr
          · show Q10m1 Z ar p1 aset ahd alv kl aL sd hc nr ls kp ou u0 h0 n0 _ T17.heap _
            rw [e17]
            exact ⟨rfl, N17, K17, c17_E_aL, c17_F_aL_number, c17_F_aL_record, c17_F_aL_start, (by rw [show (own_ls p1 ls) = p1 from by simp [own_kp, own_ou, own_ls, ho, hc13_5, hc33_10, hc41_13]]; exact c17_F_aL_lastDeclared), (by rw [show (own_kp p1 kp) = kp from by simp [own_kp, own_ou, own_ls, ho, hc13_5, hc33_10, hc41_13]]; exact c17_F_aL_kept), (by rw [show (own_ou p1 kp ls ou) = (0 : Int32) from by simp [own_kp, own_ou, own_ls, ho, hc13_5, hc33_10, hc41_13]]; exact c17_F_aL_out)⟩
      · obtain ⟨T18, h18, X18, e18, W18, st18⟩ := own_putFR X8 hx hZ hown (hw _ (List.mem_of_getElem? (i := 84) rfl)) e8 Fo E_aL (hw _ (List.mem_of_getElem? (i := 85) rfl)) (hw _ (List.mem_of_getElem? (i := 65) rfl)) (ty := .boolean) (by decide) rfl rfl (g := (mkF m 50 #[.val (.ref ar), .val (.int p1), .val (.ref aL)] [(.int (1 : Int32)), (.ref aL)])) rfl rfl (hb hby d10_50)
        have c18_E_aL := E_aL.wr W18
        have c18_F_aL_number := F_aL_number.other W18 (Or.inr (slot_ne (Or.inl (hw _ (List.mem_of_getElem? (i := 75) rfl))) (Or.inl (hw _ (List.mem_of_getElem? (i := 85) rfl))) (by decide) (t := .int) (t' := .boolean) (by decide) (by decide)))
        have c18_F_aL_record := F_aL_record.other W18 (Or.inr (slot_ne (Or.inl (hw _ (List.mem_of_getElem? (i := 77) rfl))) (Or.inl (hw _ (List.mem_of_getElem? (i := 85) rfl))) (by decide) (t := (.object "com/example/kindgen/kindgen/runtime/RecordShape")) (t' := .boolean) (by decide) (by decide)))
        have c18_F_aL_start := F_aL_start.other W18 (Or.inr (slot_ne (Or.inl (hw _ (List.mem_of_getElem? (i := 79) rfl))) (Or.inl (hw _ (List.mem_of_getElem? (i := 85) rfl))) (by decide) (t := .long) (t' := .boolean) (by decide) (by decide)))
        have c18_F_aL_lastDeclared := F_aL_lastDeclared.other W18 (Or.inr (slot_ne (Or.inl (hw _ (List.mem_of_getElem? (i := 81) rfl))) (Or.inl (hw _ (List.mem_of_getElem? (i := 85) rfl))) (by decide) (t := .int) (t' := .boolean) (by decide) (by decide)))
        have c18_F_aL_kept := F_aL_kept.other W18 (Or.inr (slot_ne (Or.inl (hw _ (List.mem_of_getElem? (i := 83) rfl))) (Or.inl (hw _ (List.mem_of_getElem? (i := 85) rfl))) (by decide) (t := .boolean) (t' := .boolean) (by decide) (by decide)))
        have c18_F_aL_out := Fo.same W18
        have N18 := Fr.snoc X18 N0 g_aL
        have K18 : Keep h0 h18 [aL] := K0.wr W18 (Or.inl (List.mem_of_getElem? (i := 0) rfl))
        obtain ⟨T19, h19, X19, e19, W19, st19⟩ := own_putFR X18 hx hZ hown (hw _ (List.mem_of_getElem? (i := 80) rfl)) e18 c18_F_aL_lastDeclared c18_E_aL (hw _ (List.mem_of_getElem? (i := 81) rfl)) (hw _ (List.mem_of_getElem? (i := 65) rfl)) (ty := .int) (by decide) rfl rfl (g := (mkF m 55 #[.val (.ref ar), .val (.int p1), .val (.ref aL)] [(.int p1), (.ref aL)])) rfl rfl (hb hby d10_55)
        have c19_E_aL := c18_E_aL.wr W19
        have c19_F_aL_number := c18_F_aL_number.other W19 (Or.inr (slot_ne (Or.inl (hw _ (List.mem_of_getElem? (i := 75) rfl))) (Or.inl (hw _ (List.mem_of_getElem? (i := 81) rfl))) (by decide) (t := .int) (t' := .int) (by decide) (by decide)))
        have c19_F_aL_record := c18_F_aL_record.other W19 (Or.inr (slot_ne (Or.inl (hw _ (List.mem_of_getElem? (i := 77) rfl))) (Or.inl (hw _ (List.mem_of_getElem? (i := 81) rfl))) (by decide) (t := (.object "com/example/kindgen/kindgen/runtime/RecordShape")) (t' := .int) (by decide) (by decide)))
        have c19_F_aL_start := c18_F_aL_start.other W19 (Or.inr (slot_ne (Or.inl (hw _ (List.mem_of_getElem? (i := 79) rfl))) (Or.inl (hw _ (List.mem_of_getElem? (i := 81) rfl))) (by decide) (t := .long) (t' := .int) (by decide) (by decide)))
        have c19_F_aL_lastDeclared := c18_F_aL_lastDeclared.same W19
        have c19_F_aL_kept := c18_F_aL_kept.other W19 (Or.inr (slot_ne (Or.inl (hw _ (List.mem_of_getElem? (i := 83) rfl))) (Or.inl (hw _ (List.mem_of_getElem? (i := 81) rfl))) (by decide) (t := .boolean) (t' := .int) (by decide) (by decide)))
        have c19_F_aL_out := c18_F_aL_out.other W19 (Or.inr (slot_ne (Or.inl (hw _ (List.mem_of_getElem? (i := 85) rfl))) (Or.inl (hw _ (List.mem_of_getElem? (i := 81) rfl))) (by decide) (t := .boolean) (t' := .int) (by decide) (by decide)))
        have N19 := Fr.snoc X19 N18 g_aL
        have K19 : Keep h0 h19 [aL] := K18.wr W19 (Or.inl (List.mem_of_getElem? (i := 0) rfl))
        obtain ⟨fs, hr, hrun, hended, hW, hsame⟩ := X19.leave (v := none) (fun _ => rfl)
        refine ⟨_, _, pre9 _ ?_, hrun, hended, _, _, rfl, ?_, ⟨_, rfl⟩, hW, hsame.mono (by decide) (by decide)⟩
        · show Steps p.tables e below (T8.setTop (mkF m 33 #[.val (.ref ar), .val (.int p1), .val (.ref aL)] [(.int kp), (.int (0 : Int32)), (.ref aL)])) _
          refine XS.ifYes X8.here hx rfl (pc0 := 33) (pc' := 44) rfl (hb hby d10_33) rfl ((if0 _ _).trans (feq hc33_10).2) (by decide) (by decide) ?_
          refine XS.iconst X8.here hx rfl (hb hby d10_44) ?_
          refine XS.goto X8.here hx rfl (pc0 := 45) (pc' := 49) rfl (hb hby d10_45) (by decide) (by decide) ?_
          show Steps p.tables e below (T8.setTop (mkF m 49 #[.val (.ref ar), .val (.int p1), .val (.ref aL)] [(.int (1 : Int32)), (.int (0 : Int32)), (.ref aL)])) _
          refine XS.ior X8.here hx rfl (hb hby d10_49) rfl ?_
          show Steps p.tables e below (T8.setTop (mkF m 50 #[.val (.ref ar), .val (.int p1), .val (.ref aL)] [(.int (1 : Int32)), (.ref aL)])) _
          refine st18 _ ?_
          refine XS.aloadN X18.here hx rfl (hb hby d10_53) rfl rfl ?_
          refine XS.iloadN X18.here hx rfl (hb hby d10_54) rfl ?_
          show Steps p.tables e below (T18.setTop (mkF m 55 #[.val (.ref ar), .val (.int p1), .val (.ref aL)] [(.int p1), (.ref aL)])) _
          refine st19 _ ?_
          show Steps p.tables e below (T19.setTop (mkF m 58 #[.val (.ref ar), .val (.int p1), .val (.ref aL)] [])) _
          exact X19.returnOut hx Bd.returns (hb hby d10_58) hr
        · show Q10m1 Z ar p1 aset ahd alv kl aL sd hc nr ls kp ou u0 h0 n0 _ T19.heap _
          rw [e19]
          exact ⟨rfl, N19, K19, c19_E_aL, c19_F_aL_number, c19_F_aL_record, c19_F_aL_start, (by rw [show (own_ls p1 ls) = p1 from by simp [own_kp, own_ou, own_ls, ho, hc13_5, hc33_10]]; exact c19_F_aL_lastDeclared), (by rw [show (own_kp p1 kp) = kp from by simp [own_kp, own_ou, own_ls, ho, hc13_5, hc33_10]]; exact c19_F_aL_kept), (by rw [show (own_ou p1 kp ls ou) = (1 : Int32) from by simp [own_kp, own_ou, own_ls, ho, hc13_5, hc33_10]]; exact c19_F_aL_out)⟩
  · have Fo : Fld Z h0 aL "com/example/kindgen/kindgen/core/document/RecordOrder$Level" "out" "Z" (.int (1 : Int32)) := by rw [← ho]; exact F_aL_out
    obtain ⟨T20, X20, e20, st20⟩ := getF X0 hx hZ hown (host := "") (Or.inl (hw _ (List.mem_of_getElem? (i := 54) rfl))) Via.refl e0 F_ar_levels (g := (mkF m 1 #[.val (.ref ar), .val (.int p1), .unset] [(.ref ar)])) rfl rfl (hb hby d10_1)
    obtain ⟨T21, X21, e21, st21⟩ := getF X20 hx hZ hown (host := "") (Or.inl (hw _ (List.mem_of_getElem? (i := 63) rfl))) Via.refl e20 F_ar_depth (g := (mkF m 5 #[.val (.ref ar), .val (.int p1), .unset] [(.ref ar), (.ref alv)])) rfl rfl (hb hby d10_5)
    obtain ⟨cl_22, Ar_22, -, S_22, N_22, H_22, -⟩ := id V_alv
    have hin_22 : ¬ ((1 : Int32) < 0 ∨ cl_22.slots.size ≤ ((1 : Int32)).toNatClampNeg) := inb_of S_22 ⟨by decide, by decide⟩
    have hat_22 : cl_22.slots[((1 : Int32)).toNatClampNeg]? = some (.ref aL) := Has.at H_22 hin_22 rfl
    have pre23 : ∀ t, Steps p.tables e below (T21.setTop (mkF m 13 #[.val (.ref ar), .val (.int p1), .val (.ref aL)] [(.int p1)])) t → Steps p.tables e below (s₁.setTop (entryFrame m #[(.ref ar), (.int p1)] 3)) t := by
      intro t k
      refine pre0 t ?_
      show Steps p.tables e below (s₁.setTop (mkF m 0 #[.val (.ref ar), .val (.int p1), .unset] [])) _
      refine XS.aloadN X0.here hx rfl (hb hby d10_0) rfl rfl ?_
      show Steps p.tables e below (s₁.setTop (mkF m 1 #[.val (.ref ar), .val (.int p1), .unset] [(.ref ar)])) _
      refine st20 _ ?_
      refine XS.aloadN X20.here hx rfl (hb hby d10_4) rfl rfl ?_
      show Steps p.tables e below (T20.setTop (mkF m 5 #[.val (.ref ar), .val (.int p1), .unset] [(.ref ar), (.ref alv)])) _
      refine st21 _ ?_
      refine XS.iconst X21.here hx rfl (hb hby d10_8) ?_
      show Steps p.tables e below (T21.setTop (mkF m 9 #[.val (.ref ar), .val (.int p1), .unset] [(.int (1 : Int32)), (.int (2 : Int32)), (.ref alv)])) _
      refine XS.isub X21.here hx rfl (hb hby d10_9) rfl ?_
      show Steps p.tables e below (T21.setTop (mkF m 10 #[.val (.ref ar), .val (.int p1), .unset] [(.int (1 : Int32)), (.ref alv)])) _
      refine X21.aaload hx (j := (1 : Int32)) (v := (.ref aL)) (by rw [e21]; exact Ar_22.1) (State.isArrayOf_alike hZ.alike Ar_22.2.1) rfl Ar_22.2.2 hin_22 hat_22 (g := (mkF m 10 #[.val (.ref ar), .val (.int p1), .unset] [(.int (1 : Int32)), (.ref alv)])) rfl rfl (hb hby d10_10) _ ?_
      show Steps p.tables e below (T21.setTop (mkF m 11 #[.val (.ref ar), .val (.int p1), .unset] [(.ref aL)])) _
      refine XS.astoreN X21.here hx rfl (hb hby d10_11) rfl rfl (l' := #[.val (.ref ar), .val (.int p1), .val (.ref aL)]) rfl ?_
      refine XS.iloadN X21.here hx rfl (hb hby d10_12) rfl ?_
      exact k
    by_cases hc13_24 : p1 < (0 : Int32)
    · obtain ⟨T25, h25, X25, e25, W25, st25⟩ := own_putFR X21 hx hZ hown (hw _ (List.mem_of_getElem? (i := 82) rfl)) e21 F_aL_kept E_aL (hw _ (List.mem_of_getElem? (i := 83) rfl)) (hw _ (List.mem_of_getElem? (i := 65) rfl)) (ty := .boolean) (by decide) rfl rfl (g := (mkF m 18 #[.val (.ref ar), .val (.int p1), .val (.ref aL)] [(.int (1 : Int32)), (.ref aL)])) rfl rfl (hb hby d10_18)
      have c25_E_aL := E_aL.wr W25
      have c25_F_aL_number := F_aL_number.other W25 (Or.inr (slot_ne (Or.inl (hw _ (List.mem_of_getElem? (i := 75) rfl))) (Or.inl (hw _ (List.mem_of_getElem? (i := 83) rfl))) (by decide) (t := .int) (t' := .boolean) (by decide) (by decide)))
      have c25_F_aL_record := F_aL_record.other W25 (Or.inr (slot_ne (Or.inl (hw _ (List.mem_of_getElem? (i := 77) rfl))) (Or.inl (hw _ (List.mem_of_getElem? (i := 83) rfl))) (by decide) (t := (.object "com/example/kindgen/kindgen/runtime/RecordShape")) (t' := .boolean) (by decide) (by decide)))
      have c25_F_aL_start := F_aL_start.other W25 (Or.inr (slot_ne (Or.inl (hw _ (List.mem_of_getElem? (i := 79) rfl))) (Or.inl (hw _ (List.mem_of_getElem? (i := 83) rfl))) (by decide) (t := .long) (t' := .boolean) (by decide) (by decide)))
      have c25_F_aL_lastDeclared := F_aL_lastDeclared.other W25 (Or.inr (slot_ne (Or.inl (hw _ (List.mem_of_getElem? (i := 81) rfl))) (Or.inl (hw _ (List.mem_of_getElem? (i := 83) rfl))) (by decide) (t := .int) (t' := .boolean) (by decide) (by decide)))
      have c25_F_aL_kept := F_aL_kept.same W25
      have c25_F_aL_out := Fo.other W25 (Or.inr (slot_ne (Or.inl (hw _ (List.mem_of_getElem? (i := 85) rfl))) (Or.inl (hw _ (List.mem_of_getElem? (i := 83) rfl))) (by decide) (t := .boolean) (t' := .boolean) (by decide) (by decide)))
      have N25 := Fr.snoc X25 N0 g_aL
      have K25 : Keep h0 h25 [aL] := K0.wr W25 (Or.inl (List.mem_of_getElem? (i := 0) rfl))
      obtain ⟨fs, hr, hrun, hended, hW, hsame⟩ := X25.leave (v := none) (fun _ => rfl)
      refine ⟨_, _, pre23 _ ?_, hrun, hended, _, _, rfl, ?_, ⟨_, rfl⟩, hW, hsame.mono (by decide) (by decide)⟩
      · show Steps p.tables e below (T21.setTop (mkF m 13 #[.val (.ref ar), .val (.int p1), .val (.ref aL)] [(.int p1)])) _
        refine XS.ifNo X21.here hx rfl (hb hby d10_13) rfl ((if0 _ _).trans (tlt hc13_24).2.1) ?_
        refine XS.aloadN X21.here hx rfl (hb hby d10_16) rfl rfl ?_
        refine XS.iconst X21.here hx rfl (hb hby d10_17) ?_
        show Steps p.tables e below (T21.setTop (mkF m 18 #[.val (.ref ar), .val (.int p1), .val (.ref aL)] [(.int (1 : Int32)), (.ref aL)])) _
        refine st25 _ ?_
        refine XS.goto X25.here hx rfl (pc0 := 21) (pc' := 58) rfl (hb hby d10_21) (by decide) (by decide) ?_
        show Steps p.tables e below (T25.setTop (mkF m 58 #[.val (.ref ar), .val (.int p1), .val (.ref aL)] [])) _
        exact X25.returnOut hx Bd.returns (hb hby d10_58) hr
      · show Q10m1 Z ar p1 aset ahd alv kl aL sd hc nr ls kp ou u0 h0 n0 _ T25.heap _
        rw [e25]
        exact ⟨rfl, N25, K25, c25_E_aL, c25_F_aL_number, c25_F_aL_record, c25_F_aL_start, (by rw [show (own_ls p1 ls) = ls from by simp [own_kp, own_ou, own_ls, ho, hc13_24]]; exact c25_F_aL_lastDeclared), (by rw [show (own_kp p1 kp) = (1 : Int32) from by simp [own_kp, own_ou, own_ls, ho, hc13_24]]; exact c25_F_aL_kept), (by rw [show (own_ou p1 kp ls ou) = (1 : Int32) from by simp [own_kp, own_ou, own_ls, ho, hc13_24]]; exact c25_F_aL_out)⟩
    · obtain ⟨T26, X26, e26, st26⟩ := own_getFR X21 hx hZ hown (hw _ (List.mem_of_getElem? (i := 84) rfl)) e21 Fo (g := (mkF m 26 #[.val (.ref ar), .val (.int p1), .val (.ref aL)] [(.ref aL), (.ref aL)])) rfl rfl (hb hby d10_26)
      obtain ⟨T27, X27, e27, st27⟩ := own_getFR X26 hx hZ hown (hw _ (List.mem_of_getElem? (i := 82) rfl)) e26 F_aL_kept (g := (mkF m 30 #[.val (.ref ar), .val (.int p1), .val (.ref aL)] [(.ref aL), (.int (1 : Int32)), (.ref aL)])) rfl rfl (hb hby d10_30)
      have pre28 : ∀ t, Steps p.tables e below (T27.setTop (mkF m 33 #[.val (.ref ar), .val (.int p1), .val (.ref aL)] [(.int kp), (.int (1 : Int32)), (.ref aL)])) t → Steps p.tables e below (s₁.setTop (entryFrame m #[(.ref ar), (.int p1)] 3)) t := by
        intro t k
        refine pre23 t ?_
        show Steps p.tables e below (T21.setTop (mkF m 13 #[.val (.ref ar), .val (.int p1), .val (.ref aL)] [(.int p1)])) _
        refine XS.ifYes X21.here hx rfl (pc0 := 13) (pc' := 24) rfl (hb hby d10_13) rfl ((if0 _ _).trans (flt hc13_24).2.1) (by decide) (by decide) ?_
        refine XS.aloadN X21.here hx rfl (hb hby d10_24) rfl rfl ?_
        show Steps p.tables e below (T21.setTop (mkF m 25 #[.val (.ref ar), .val (.int p1), .val (.ref aL)] [(.ref aL)])) _
        refine XS.dup X21.here hx rfl (hb hby d10_25) rfl rfl ?_
        show Steps p.tables e below (T21.setTop (mkF m 26 #[.val (.ref ar), .val (.int p1), .val (.ref aL)] [(.ref aL), (.ref aL)])) _
        refine st26 _ ?_
        refine XS.aloadN X26.here hx rfl (hb hby d10_29) rfl rfl ?_
        show Steps p.tables e below (T26.setTop (mkF m 30 #[.val (.ref ar), .val (.int p1), .val (.ref aL)] [(.ref aL), (.int (1 : Int32)), (.ref aL)])) _
        refine st27 _ ?_
        exact k
      by_cases hc33_29 : kp = (0 : Int32)
      · obtain ⟨T30, X30, e30, st30⟩ := own_getFR X27 hx hZ hown (hw _ (List.mem_of_getElem? (i := 80) rfl)) e27 F_aL_lastDeclared (g := (mkF m 38 #[.val (.ref ar), .val (.int p1), .val (.ref aL)] [(.ref aL), (.int p1), (.int (1 : Int32)), (.ref aL)])) rfl rfl (hb hby d10_38)
        have pre31 : ∀ t, Steps p.tables e below (T30.setTop (mkF m 41 #[.val (.ref ar), .val (.int p1), .val (.ref aL)] [(.int ls), (.int p1), (.int (1 : Int32)), (.ref aL)])) t → Steps p.tables e below (s₁.setTop (entryFrame m #[(.ref ar), (.int p1)] 3)) t := by
          intro t k
          refine pre28 t ?_
          show Steps p.tables e below (T27.setTop (mkF m 33 #[.val (.ref ar), .val (.int p1), .val (.ref aL)] [(.int kp), (.int (1 : Int32)), (.ref aL)])) _
          refine XS.ifNo X27.here hx rfl (hb hby d10_33) rfl ((if0 _ _).trans (teq hc33_29).2) ?_
          refine XS.iloadN X27.here hx rfl (hb hby d10_36) rfl ?_
          refine XS.aloadN X27.here hx rfl (hb hby d10_37) rfl rfl ?_
          show Steps p.tables e below (T27.setTop (mkF m 38 #[.val (.ref ar), .val (.int p1), .val (.ref aL)] [(.ref aL), (.int p1), (.int (1 : Int32)), (.ref aL)])) _
          refine st30 _ ?_
          exact k
        by_cases hc41_32 : p1 < ls
        · obtain ⟨T33, h33, X33, e33, W33, st33⟩ := own_putFR X30 hx hZ hown (hw _ (List.mem_of_getElem? (i := 84) rfl)) e30 Fo E_aL (hw _ (List.mem_of_getElem? (i := 85) rfl)) (hw _ (List.mem_of_getElem? (i := 65) rfl)) (ty := .boolean) (by decide) rfl rfl (g := (mkF m 50 #[.val (.ref ar), .val (.int p1), .val (.ref aL)] [(.int (1 : Int32)), (.ref aL)])) rfl rfl (hb hby d10_50)
          have c33_E_aL := E_aL.wr W33
          have c33_F_aL_number := F_aL_number.other W33 (Or.inr (slot_ne (Or.inl (hw _ (List.mem_of_getElem? (i := 75) rfl))) (Or.inl (hw _ (List.mem_of_getElem? (i := 85) rfl))) (by decide) (t := .int) (t' := .boolean) (by decide) (by decide)))
          have c33_F_aL_record := F_aL_record.other W33 (Or.inr (slot_ne (Or.inl (hw _ (List.mem_of_getElem? (i := 77) rfl))) (Or.inl (hw _ (List.mem_of_getElem? (i := 85) rfl))) (by decide) (t := (.object "com/example/kindgen/kindgen/runtime/RecordShape")) (t' := .boolean) (by decide) (by decide)))
          have c33_F_aL_start := F_aL_start.other W33 (Or.inr (slot_ne (Or.inl (hw _ (List.mem_of_getElem? (i := 79) rfl))) (Or.inl (hw _ (List.mem_of_getElem? (i := 85) rfl))) (by decide) (t := .long) (t' := .boolean) (by decide) (by decide)))
          have c33_F_aL_lastDeclared := F_aL_lastDeclared.other W33 (Or.inr (slot_ne (Or.inl (hw _ (List.mem_of_getElem? (i := 81) rfl))) (Or.inl (hw _ (List.mem_of_getElem? (i := 85) rfl))) (by decide) (t := .int) (t' := .boolean) (by decide) (by decide)))
          have c33_F_aL_kept := F_aL_kept.other W33 (Or.inr (slot_ne (Or.inl (hw _ (List.mem_of_getElem? (i := 83) rfl))) (Or.inl (hw _ (List.mem_of_getElem? (i := 85) rfl))) (by decide) (t := .boolean) (t' := .boolean) (by decide) (by decide)))
          have c33_F_aL_out := Fo.same W33
          have N33 := Fr.snoc X33 N0 g_aL
          have K33 : Keep h0 h33 [aL] := K0.wr W33 (Or.inl (List.mem_of_getElem? (i := 0) rfl))
          obtain ⟨T34, h34, X34, e34, W34, st34⟩ := own_putFR X33 hx hZ hown (hw _ (List.mem_of_getElem? (i := 80) rfl)) e33 c33_F_aL_lastDeclared c33_E_aL (hw _ (List.mem_of_getElem? (i := 81) rfl)) (hw _ (List.mem_of_getElem? (i := 65) rfl)) (ty := .int) (by decide) rfl rfl (g := (mkF m 55 #[.val (.ref ar), .val (.int p1), .val (.ref aL)] [(.int p1), (.ref aL)])) rfl rfl (hb hby d10_55)
          have c34_E_aL := c33_E_aL.wr W34
          have c34_F_aL_number := c33_F_aL_number.other W34 (Or.inr (slot_ne (Or.inl (hw _ (List.mem_of_getElem? (i := 75) rfl))) (Or.inl (hw _ (List.mem_of_getElem? (i := 81) rfl))) (by decide) (t := .int) (t' := .int) (by decide) (by decide)))
          have c34_F_aL_record := c33_F_aL_record.other W34 (Or.inr (slot_ne (Or.inl (hw _ (List.mem_of_getElem? (i := 77) rfl))) (Or.inl (hw _ (List.mem_of_getElem? (i := 81) rfl))) (by decide) (t := (.object "com/example/kindgen/kindgen/runtime/RecordShape")) (t' := .int) (by decide) (by decide)))
          have c34_F_aL_start := c33_F_aL_start.other W34 (Or.inr (slot_ne (Or.inl (hw _ (List.mem_of_getElem? (i := 79) rfl))) (Or.inl (hw _ (List.mem_of_getElem? (i := 81) rfl))) (by decide) (t := .long) (t' := .int) (by decide) (by decide)))
          have c34_F_aL_lastDeclared := c33_F_aL_lastDeclared.same W34
          have c34_F_aL_kept := c33_F_aL_kept.other W34 (Or.inr (slot_ne (Or.inl (hw _ (List.mem_of_getElem? (i := 83) rfl))) (Or.inl (hw _ (List.mem_of_getElem? (i := 81) rfl))) (by decide) (t := .boolean) (t' := .int) (by decide) (by decide)))
          have c34_F_aL_out := c33_F_aL_out.other W34 (Or.inr (slot_ne (Or.inl (hw _ (List.mem_of_getElem? (i := 85) rfl))) (Or.inl (hw _ (List.mem_of_getElem? (i := 81) rfl))) (by decide) (t := .boolean) (t' := .int) (by decide) (by decide)))
          have N34 := Fr.snoc X34 N33 g_aL
          have K34 : Keep h0 h34 [aL] := K33.wr W34 (Or.inl (List.mem_of_getElem? (i := 0) rfl))
          obtain ⟨fs, hr, hrun, hended, hW, hsame⟩ := X34.leave (v := none) (fun _ => rfl)
          refine ⟨_, _, pre31 _ ?_, hrun, hended, _, _, rfl, ?_, ⟨_, rfl⟩, hW, hsame.mono (by decide) (by decide)⟩
          · show Steps p.tables e below (T30.setTop (mkF m 41 #[.val (.ref ar), .val (.int p1), .val (.ref aL)] [(.int ls), (.int p1), (.int (1 : Int32)), (.ref aL)])) _
            refine XS.icmpNo X30.here hx rfl (hb hby d10_41) rfl (tlt hc41_32).2.1 ?_
            refine XS.iconst X30.here hx rfl (hb hby d10_44) ?_
            refine XS.goto X30.here hx rfl (pc0 := 45) (pc' := 49) rfl (hb hby d10_45) (by decide) (by decide) ?_
            show Steps p.tables e below (T30.setTop (mkF m 49 #[.val (.ref ar), .val (.int p1), .val (.ref aL)] [(.int (1 : Int32)), (.int (1 : Int32)), (.ref aL)])) _
            refine XS.ior X30.here hx rfl (hb hby d10_49) rfl ?_
            show Steps p.tables e below (T30.setTop (mkF m 50 #[.val (.ref ar), .val (.int p1), .val (.ref aL)] [(.int (1 : Int32)), (.ref aL)])) _
            refine st33 _ ?_
            refine XS.aloadN X33.here hx rfl (hb hby d10_53) rfl rfl ?_
            refine XS.iloadN X33.here hx rfl (hb hby d10_54) rfl ?_
            show Steps p.tables e below (T33.setTop (mkF m 55 #[.val (.ref ar), .val (.int p1), .val (.ref aL)] [(.int p1), (.ref aL)])) _
            refine st34 _ ?_
            show Steps p.tables e below (T34.setTop (mkF m 58 #[.val (.ref ar), .val (.int p1), .val (.ref aL)] [])) _
            exact X34.returnOut hx Bd.returns (hb hby d10_58) hr
          · show Q10m1 Z ar p1 aset ahd alv kl aL sd hc nr ls kp ou u0 h0 n0 _ T34.heap _
            rw [e34]
            exact ⟨rfl, N34, K34, c34_E_aL, c34_F_aL_number, c34_F_aL_record, c34_F_aL_start, (by rw [show (own_ls p1 ls) = p1 from by simp [own_kp, own_ou, own_ls, ho, hc13_24, hc33_29, hc41_32]]; exact c34_F_aL_lastDeclared), (by rw [show (own_kp p1 kp) = kp from by simp [own_kp, own_ou, own_ls, ho, hc13_24, hc33_29, hc41_32]]; exact c34_F_aL_kept), (by rw [show (own_ou p1 kp ls ou) = (1 : Int32) from by simp [own_kp, own_ou, own_ls, ho, hc13_24, hc33_29, hc41_32]]; exact c34_F_aL_out)⟩
        · obtain ⟨T35, h35, X35, e35, W35, st35⟩ := own_putFR X30 hx hZ hown (hw _ (List.mem_of_getElem? (i := 84) rfl)) e30 Fo E_aL (hw _ (List.mem_of_getElem? (i := 85) rfl)) (hw _ (List.mem_of_getElem? (i := 65) rfl)) (ty := .boolean) (by decide) rfl rfl (g := (mkF m 50 #[.val (.ref ar), .val (.int p1), .val (.ref aL)] [(.int (1 : Int32)), (.ref aL)])) rfl rfl (hb hby d10_50)
          have c35_E_aL := E_aL.wr W35
          have c35_F_aL_number := F_aL_number.other W35 (Or.inr (slot_ne (Or.inl (hw _ (List.mem_of_getElem? (i := 75) rfl))) (Or.inl (hw _ (List.mem_of_getElem? (i := 85) rfl))) (by decide) (t := .int) (t' := .boolean) (by decide) (by decide)))
          have c35_F_aL_record := F_aL_record.other W35 (Or.inr (slot_ne (Or.inl (hw _ (List.mem_of_getElem? (i := 77) rfl))) (Or.inl (hw _ (List.mem_of_getElem? (i := 85) rfl))) (by decide) (t := (.object "com/example/kindgen/kindgen/runtime/RecordShape")) (t' := .boolean) (by decide) (by decide)))
          have c35_F_aL_start := F_aL_start.other W35 (Or.inr (slot_ne (Or.inl (hw _ (List.mem_of_getElem? (i := 79) rfl))) (Or.inl (hw _ (List.mem_of_getElem? (i := 85) rfl))) (by decide) (t := .long) (t' := .boolean) (by decide) (by decide)))
          have c35_F_aL_lastDeclared := F_aL_lastDeclared.other W35 (Or.inr (slot_ne (Or.inl (hw _ (List.mem_of_getElem? (i := 81) rfl))) (Or.inl (hw _ (List.mem_of_getElem? (i := 85) rfl))) (by decide) (t := .int) (t' := .boolean) (by decide) (by decide)))
          have c35_F_aL_kept := F_aL_kept.other W35 (Or.inr (slot_ne (Or.inl (hw _ (List.mem_of_getElem? (i := 83) rfl))) (Or.inl (hw _ (List.mem_of_getElem? (i := 85) rfl))) (by decide) (t := .boolean) (t' := .boolean) (by decide) (by decide)))
          have c35_F_aL_out := Fo.same W35
          have N35 := Fr.snoc X35 N0 g_aL
          have K35 : Keep h0 h35 [aL] := K0.wr W35 (Or.inl (List.mem_of_getElem? (i := 0) rfl))
          obtain ⟨T36, h36, X36, e36, W36, st36⟩ := own_putFR X35 hx hZ hown (hw _ (List.mem_of_getElem? (i := 80) rfl)) e35 c35_F_aL_lastDeclared c35_E_aL (hw _ (List.mem_of_getElem? (i := 81) rfl)) (hw _ (List.mem_of_getElem? (i := 65) rfl)) (ty := .int) (by decide) rfl rfl (g := (mkF m 55 #[.val (.ref ar), .val (.int p1), .val (.ref aL)] [(.int p1), (.ref aL)])) rfl rfl (hb hby d10_55)
          have c36_E_aL := c35_E_aL.wr W36
          have c36_F_aL_number := c35_F_aL_number.other W36 (Or.inr (slot_ne (Or.inl (hw _ (List.mem_of_getElem? (i := 75) rfl))) (Or.inl (hw _ (List.mem_of_getElem? (i := 81) rfl))) (by decide) (t := .int) (t' := .int) (by decide) (by decide)))
          have c36_F_aL_record := c35_F_aL_record.other W36 (Or.inr (slot_ne (Or.inl (hw _ (List.mem_of_getElem? (i := 77) rfl))) (Or.inl (hw _ (List.mem_of_getElem? (i := 81) rfl))) (by decide) (t := (.object "com/example/kindgen/kindgen/runtime/RecordShape")) (t' := .int) (by decide) (by decide)))
          have c36_F_aL_start := c35_F_aL_start.other W36 (Or.inr (slot_ne (Or.inl (hw _ (List.mem_of_getElem? (i := 79) rfl))) (Or.inl (hw _ (List.mem_of_getElem? (i := 81) rfl))) (by decide) (t := .long) (t' := .int) (by decide) (by decide)))
          have c36_F_aL_lastDeclared := c35_F_aL_lastDeclared.same W36
          have c36_F_aL_kept := c35_F_aL_kept.other W36 (Or.inr (slot_ne (Or.inl (hw _ (List.mem_of_getElem? (i := 83) rfl))) (Or.inl (hw _ (List.mem_of_getElem? (i := 81) rfl))) (by decide) (t := .boolean) (t' := .int) (by decide) (by decide)))
          have c36_F_aL_out := c35_F_aL_out.other W36 (Or.inr (slot_ne (Or.inl (hw _ (List.mem_of_getElem? (i := 85) rfl))) (Or.inl (hw _ (List.mem_of_getElem? (i := 81) rfl))) (by decide) (t := .boolean) (t' := .int) (by decide) (by decide)))
          have N36 := Fr.snoc X36 N35 g_aL
          have K36 : Keep h0 h36 [aL] := K35.wr W36 (Or.inl (List.mem_of_getElem? (i := 0) rfl))
          obtain ⟨fs, hr, hrun, hended, hW, hsame⟩ := X36.leave (v := none) (fun _ => rfl)
          refine ⟨_, _, pre31 _ ?_, hrun, hended, _, _, rfl, ?_, ⟨_, rfl⟩, hW, hsame.mono (by decide) (by decide)⟩
          · show Steps p.tables e below (T30.setTop (mkF m 41 #[.val (.ref ar), .val (.int p1), .val (.ref aL)] [(.int ls), (.int p1), (.int (1 : Int32)), (.ref aL)])) _
            refine XS.icmpYes X30.here hx rfl (pc0 := 41) (pc' := 48) rfl (hb hby d10_41) rfl (flt hc41_32).2.1 (by decide) (by decide) ?_
            refine XS.iconst X30.here hx rfl (hb hby d10_48) ?_
            show Steps p.tables e below (T30.setTop (mkF m 49 #[.val (.ref ar), .val (.int p1), .val (.ref aL)] [(.int (0 : Int32)), (.int (1 : Int32)), (.ref aL)])) _
            refine XS.ior X30.here hx rfl (hb hby d10_49) rfl ?_
            show Steps p.tables e below (T30.setTop (mkF m 50 #[.val (.ref ar), .val (.int p1), .val (.ref aL)] [(.int (1 : Int32)), (.ref aL)])) _
            refine st35 _ ?_
            refine XS.aloadN X35.here hx rfl (hb hby d10_53) rfl rfl ?_
            refine XS.iloadN X35.here hx rfl (hb hby d10_54) rfl ?_
            show Steps p.tables e below (T35.setTop (mkF m 55 #[.val (.ref ar), .val (.int p1), .val (.ref aL)] [(.int p1), (.ref aL)])) _
            refine st36 _ ?_
            show Steps p.tables e below (T36.setTop (mkF m 58 #[.val (.ref ar), .val (.int p1), .val (.ref aL)] [])) _
            exact X36.returnOut hx Bd.returns (hb hby d10_58) hr
          · show Q10m1 Z ar p1 aset ahd alv kl aL sd hc nr ls kp ou u0 h0 n0 _ T36.heap _
            rw [e36]
            exact ⟨rfl, N36, K36, c36_E_aL, c36_F_aL_number, c36_F_aL_record, c36_F_aL_start, (by rw [show (own_ls p1 ls) = p1 from by simp [own_kp, own_ou, own_ls, ho, hc13_24, hc33_29, hc41_32]]; exact c36_F_aL_lastDeclared), (by rw [show (own_kp p1 kp) = kp from by simp [own_kp, own_ou, own_ls, ho, hc13_24, hc33_29, hc41_32]]; exact c36_F_aL_kept), (by rw [show (own_ou p1 kp ls ou) = (1 : Int32) from by simp [own_kp, own_ou, own_ls, ho, hc13_24, hc33_29, hc41_32]]; exact c36_F_aL_out)⟩
      · obtain ⟨T37, h37, X37, e37, W37, st37⟩ := own_putFR X27 hx hZ hown (hw _ (List.mem_of_getElem? (i := 84) rfl)) e27 Fo E_aL (hw _ (List.mem_of_getElem? (i := 85) rfl)) (hw _ (List.mem_of_getElem? (i := 65) rfl)) (ty := .boolean) (by decide) rfl rfl (g := (mkF m 50 #[.val (.ref ar), .val (.int p1), .val (.ref aL)] [(.int (1 : Int32)), (.ref aL)])) rfl rfl (hb hby d10_50)
        have c37_E_aL := E_aL.wr W37
        have c37_F_aL_number := F_aL_number.other W37 (Or.inr (slot_ne (Or.inl (hw _ (List.mem_of_getElem? (i := 75) rfl))) (Or.inl (hw _ (List.mem_of_getElem? (i := 85) rfl))) (by decide) (t := .int) (t' := .boolean) (by decide) (by decide)))
        have c37_F_aL_record := F_aL_record.other W37 (Or.inr (slot_ne (Or.inl (hw _ (List.mem_of_getElem? (i := 77) rfl))) (Or.inl (hw _ (List.mem_of_getElem? (i := 85) rfl))) (by decide) (t := (.object "com/example/kindgen/kindgen/runtime/RecordShape")) (t' := .boolean) (by decide) (by decide)))
        have c37_F_aL_start := F_aL_start.other W37 (Or.inr (slot_ne (Or.inl (hw _ (List.mem_of_getElem? (i := 79) rfl))) (Or.inl (hw _ (List.mem_of_getElem? (i := 85) rfl))) (by decide) (t := .long) (t' := .boolean) (by decide) (by decide)))
        have c37_F_aL_lastDeclared := F_aL_lastDeclared.other W37 (Or.inr (slot_ne (Or.inl (hw _ (List.mem_of_getElem? (i := 81) rfl))) (Or.inl (hw _ (List.mem_of_getElem? (i := 85) rfl))) (by decide) (t := .int) (t' := .boolean) (by decide) (by decide)))
        have c37_F_aL_kept := F_aL_kept.other W37 (Or.inr (slot_ne (Or.inl (hw _ (List.mem_of_getElem? (i := 83) rfl))) (Or.inl (hw _ (List.mem_of_getElem? (i := 85) rfl))) (by decide) (t := .boolean) (t' := .boolean) (by decide) (by decide)))
        have c37_F_aL_out := Fo.same W37
        have N37 := Fr.snoc X37 N0 g_aL
        have K37 : Keep h0 h37 [aL] := K0.wr W37 (Or.inl (List.mem_of_getElem? (i := 0) rfl))
        obtain ⟨T38, h38, X38, e38, W38, st38⟩ := own_putFR X37 hx hZ hown (hw _ (List.mem_of_getElem? (i := 80) rfl)) e37 c37_F_aL_lastDeclared c37_E_aL (hw _ (List.mem_of_getElem? (i := 81) rfl)) (hw _ (List.mem_of_getElem? (i := 65) rfl)) (ty := .int) (by decide) rfl rfl (g := (mkF m 55 #[.val (.ref ar), .val (.int p1), .val (.ref aL)] [(.int p1), (.ref aL)])) rfl rfl (hb hby d10_55)
        have c38_E_aL := c37_E_aL.wr W38
        have c38_F_aL_number := c37_F_aL_number.other W38 (Or.inr (slot_ne (Or.inl (hw _ (List.mem_of_getElem? (i := 75) rfl))) (Or.inl (hw _ (List.mem_of_getElem? (i := 81) rfl))) (by decide) (t := .int) (t' := .int) (by decide) (by decide)))
        have c38_F_aL_record := c37_F_aL_record.other W38 (Or.inr (slot_ne (Or.inl (hw _ (List.mem_of_getElem? (i := 77) rfl))) (Or.inl (hw _ (List.mem_of_getElem? (i := 81) rfl))) (by decide) (t := (.object "com/example/kindgen/kindgen/runtime/RecordShape")) (t' := .int) (by decide) (by decide)))
        have c38_F_aL_start := c37_F_aL_start.other W38 (Or.inr (slot_ne (Or.inl (hw _ (List.mem_of_getElem? (i := 79) rfl))) (Or.inl (hw _ (List.mem_of_getElem? (i := 81) rfl))) (by decide) (t := .long) (t' := .int) (by decide) (by decide)))
        have c38_F_aL_lastDeclared := c37_F_aL_lastDeclared.same W38
        have c38_F_aL_kept := c37_F_aL_kept.other W38 (Or.inr (slot_ne (Or.inl (hw _ (List.mem_of_getElem? (i := 83) rfl))) (Or.inl (hw _ (List.mem_of_getElem? (i := 81) rfl))) (by decide) (t := .boolean) (t' := .int) (by decide) (by decide)))
        have c38_F_aL_out := c37_F_aL_out.other W38 (Or.inr (slot_ne (Or.inl (hw _ (List.mem_of_getElem? (i := 85) rfl))) (Or.inl (hw _ (List.mem_of_getElem? (i := 81) rfl))) (by decide) (t := .boolean) (t' := .int) (by decide) (by decide)))
        have N38 := Fr.snoc X38 N37 g_aL
        have K38 : Keep h0 h38 [aL] := K37.wr W38 (Or.inl (List.mem_of_getElem? (i := 0) rfl))
        obtain ⟨fs, hr, hrun, hended, hW, hsame⟩ := X38.leave (v := none) (fun _ => rfl)
        refine ⟨_, _, pre28 _ ?_, hrun, hended, _, _, rfl, ?_, ⟨_, rfl⟩, hW, hsame.mono (by decide) (by decide)⟩
        · show Steps p.tables e below (T27.setTop (mkF m 33 #[.val (.ref ar), .val (.int p1), .val (.ref aL)] [(.int kp), (.int (1 : Int32)), (.ref aL)])) _
          refine XS.ifYes X27.here hx rfl (pc0 := 33) (pc' := 44) rfl (hb hby d10_33) rfl ((if0 _ _).trans (feq hc33_29).2) (by decide) (by decide) ?_
          refine XS.iconst X27.here hx rfl (hb hby d10_44) ?_
          refine XS.goto X27.here hx rfl (pc0 := 45) (pc' := 49) rfl (hb hby d10_45) (by decide) (by decide) ?_
          show Steps p.tables e below (T27.setTop (mkF m 49 #[.val (.ref ar), .val (.int p1), .val (.ref aL)] [(.int (1 : Int32)), (.int (1 : Int32)), (.ref aL)])) _
          refine XS.ior X27.here hx rfl (hb hby d10_49) rfl ?_
          show Steps p.tables e below (T27.setTop (mkF m 50 #[.val (.ref ar), .val (.int p1), .val (.ref aL)] [(.int (1 : Int32)), (.ref aL)])) _
          refine st37 _ ?_
          refine XS.aloadN X37.here hx rfl (hb hby d10_53) rfl rfl ?_
          refine XS.iloadN X37.here hx rfl (hb hby d10_54) rfl ?_
          show Steps p.tables e below (T37.setTop (mkF m 55 #[.val (.ref ar), .val (.int p1), .val (.ref aL)] [(.int p1), (.ref aL)])) _
          refine st38 _ ?_
          show Steps p.tables e below (T38.setTop (mkF m 58 #[.val (.ref ar), .val (.int p1), .val (.ref aL)] [])) _
          exact X38.returnOut hx Bd.returns (hb hby d10_58) hr
        · show Q10m1 Z ar p1 aset ahd alv kl aL sd hc nr ls kp ou u0 h0 n0 _ T38.heap _
          rw [e38]
          exact ⟨rfl, N38, K38, c38_E_aL, c38_F_aL_number, c38_F_aL_record, c38_F_aL_start, (by rw [show (own_ls p1 ls) = p1 from by simp [own_kp, own_ou, own_ls, ho, hc13_24, hc33_29]]; exact c38_F_aL_lastDeclared), (by rw [show (own_kp p1 kp) = kp from by simp [own_kp, own_ou, own_ls, ho, hc13_24, hc33_29]]; exact c38_F_aL_kept), (by rw [show (own_ou p1 kp ls ou) = (1 : Int32) from by simp [own_kp, own_ou, own_ls, ho, hc13_24, hc33_29]]; exact c38_F_aL_out)⟩
theorem ef_16 (m : MethodId) (x0 : Addr) : entryFrame m #[(.ref x0)] 14 = mkF m 0 #[.val (.ref x0), .unset, .unset, .unset, .unset, .unset, .unset, .unset, .unset, .unset, .unset, .unset, .unset, .unset] [] := by first | (simp [entryFrame, mkF, argsToLocals, Value.category]; done) | rfl
def Q16 (Z : State) (amap : Addr)  (h0 : Heap) (n0 : Nat) (v : Option Value) (h : Heap) (L : List Loc) : Prop := ∃ (b4 : Addr), ∃ (k4 : ClassId), v = some (.ref b4) ∧ Fr n0 L ∧ Keep h0 h [amap] ∧ Exa Z h amap "java/util/HashMap" ∧ Fld Z h amap "java/util/HashMap" "table" "[Ljava/util/HashMap$Node;" (.ref b4) ∧ Fld Z h amap "java/util/HashMap" "threshold" "I" (.int (12 : Int32)) ∧ Fld Z h amap "java/util/HashMap" "modCount" "I" (.int (0 : Int32)) ∧ Fld Z h amap "java/util/HashMap" "size" "I" (.int (0 : Int32)) ∧ Fld Z h amap "java/util/HashMap" "loadFactor" "F" (.float (1061158912 : UInt32)) ∧ Arv Z h b4 k4 (.object "java/util/HashMap$Node") (16 : Int32) [.null, .null, .null, .null, .null, .null, .null, .null, .null, .null, .null, .null, .null, .null, .null, .null] .null ∧ Ovr Z k4 "java/util/HashMap$Node" ∧ n0 ≤ b4 ∧ h0.size ≤ b4
set_option maxRecDepth 65536 in
set_option maxHeartbeats 40000000 in
theorem rm16 (l : Launch) (Z : State) (a0 : Array Value) (hw : ∀ d ∈ tables_1, d.before a0 Z = true) (ws : List Jvm.Cond) (amap : Addr)  (h0 : Heap) (n0 : Nat) (Z0 : n0 ≤ h0.size) (E_amap : Exa Z h0 amap "java/util/HashMap") (F_amap_table : Fld Z h0 amap "java/util/HashMap" "table" "[Ljava/util/HashMap$Node;" .null) (F_amap_threshold : Fld Z h0 amap "java/util/HashMap" "threshold" "I" (.int (0 : Int32))) (F_amap_modCount : Fld Z h0 amap "java/util/HashMap" "modCount" "I" (.int (0 : Int32))) (F_amap_size : Fld Z h0 amap "java/util/HashMap" "size" "I" (.int (0 : Int32))) (F_amap_loadFactor : Fld Z h0 amap "java/util/HashMap" "loadFactor" "F" (.float (1061158912 : UInt32))) (g_amap : n0 ≤ amap) :
    MetFree l (⟨"java/util/HashMap", "resize", "()[Ljava/util/HashMap$Node;"⟩ : MethodName) (head1 (Jvm.Cond.code (⟨"java/util/HashMap", "resize", "()[Ljava/util/HashMap$Node;"⟩ : MethodName) jdk_69_method_17_code 14 (some (.array (.object "java/util/HashMap$Node"))) :: ws) ({ frames := 0, cells := 1, slots := 16, locals := 0 } : Room)) (fun a U => a = #[(.ref amap)] ∧ Z.Warmed39 U.vm ∧ U.heap = h0) (fun _ _ _ _ _ => True) (fun _ U o U' => ∃ v L, o = .returned v ∧ Q16 Z amap h0 n0 v U'.heap L ∧ FrameEnd U o U' L ({ frames := 0, cells := 1, slots := 16, locals := 0 } : Room).cells ({ frames := 0, cells := 1, slots := 16, locals := 0 } : Room).slots) := by
  refine MetFree.of_bodySF (plainFor_of_name pn_16) hisR ?_
  intro p e s m args below meth c s₁ Bd hml0 hP hK
  obtain ⟨rfl, hZ, hh⟩ := hP
  have hx := Bd.exec
  have hby := Bd.bytes
  have hown : s.vm.findClass "java/util/HashMap" = some m.cls := findClass_of_methodNamed Bd.named
  have X0 : Stand p l e ({ frames := 0, cells := 1, slots := 16, locals := 0 } : Room) s m #[(.ref amap)] below meth c s₁ [] 0 0 := Stand.of_body Bd
  have e0 : s₁.heap = h0 := by rw [← hh, Bd.state]; rfl
  have N0 := Fr.nil n0
  have pre0 : ∀ t, Steps p.tables e below (s₁.setTop (mkF m 0 #[.val (.ref amap), .unset, .unset, .unset, .unset, .unset, .unset, .unset, .unset, .unset, .unset, .unset, .unset, .unset] [])) t → Steps p.tables e below (s₁.setTop (entryFrame m #[(.ref amap)] 14)) t := fun t k => castTop (ef_16 m amap) k
  have K0 : Keep h0 h0 [amap] := Keep.refl h0 _
  obtain ⟨T1, X1, e1, st1⟩ := getF X0 hx hZ hown (host := "") (Or.inl (hw _ (List.mem_of_getElem? (i := 119) rfl))) Via.refl e0 F_amap_table (g := (mkF m 1 #[.val (.ref amap), .unset, .unset, .unset, .unset, .unset, .unset, .unset, .unset, .unset, .unset, .unset, .unset, .unset] [(.ref amap)])) rfl rfl (hb hby d16_1)
  obtain ⟨T2, X2, e2, st2⟩ := getF X1 hx hZ hown (host := "") (Or.inl (hw _ (List.mem_of_getElem? (i := 126) rfl))) Via.refl e1 F_amap_threshold (g := (mkF m 17 #[.val (.ref amap), .val .null, .val (.int (0 : Int32)), .unset, .unset, .unset, .unset, .unset, .unset, .unset, .unset, .unset, .unset, .unset] [(.ref amap)])) rfl rfl (hb hby d16_17)
  obtain ⟨T3, h3, X3, e3, W3, st3⟩ := putF X2 hx hZ hown (host := "") (Or.inl (hw _ (List.mem_of_getElem? (i := 126) rfl))) Via.refl e2 F_amap_threshold E_amap (Or.inl (hw _ (List.mem_of_getElem? (i := 127) rfl))) (hw _ (List.mem_of_getElem? (i := 29) rfl)) (ty := .int) (by decide) rfl rfl (g := (mkF m 128 #[.val (.ref amap), .val .null, .val (.int (0 : Int32)), .val (.int (0 : Int32)), .val (.int (16 : Int32)), .val (.int (12 : Int32)), .unset, .unset, .unset, .unset, .unset, .unset, .unset, .unset] [(.int (12 : Int32)), (.ref amap)])) rfl rfl (hb hby d16_128)
  have c3_E_amap := E_amap.wr W3
  have c3_F_amap_table := F_amap_table.other W3 (Or.inr (slot_ne (Or.inl (hw _ (List.mem_of_getElem? (i := 120) rfl))) (Or.inl (hw _ (List.mem_of_getElem? (i := 127) rfl))) (by decide) (t := (.array (.object "java/util/HashMap$Node"))) (t' := .int) (by decide) (by decide)))
  have c3_F_amap_threshold := F_amap_threshold.same W3
  have c3_F_amap_modCount := F_amap_modCount.other W3 (Or.inr (slot_ne (Or.inl (hw _ (List.mem_of_getElem? (i := 151) rfl))) (Or.inl (hw _ (List.mem_of_getElem? (i := 127) rfl))) (by decide) (t := .int) (t' := .int) (by decide) (by decide)))
  have c3_F_amap_size := F_amap_size.other W3 (Or.inr (slot_ne (Or.inl (hw _ (List.mem_of_getElem? (i := 153) rfl))) (Or.inl (hw _ (List.mem_of_getElem? (i := 127) rfl))) (by decide) (t := .int) (t' := .int) (by decide) (by decide)))
  have c3_F_amap_loadFactor := F_amap_loadFactor.other W3 (Or.inr (slot_ne (Or.inr (hw _ (List.mem_of_getElem? (i := 44) rfl))) (Or.inl (hw _ (List.mem_of_getElem? (i := 127) rfl))) (by decide) (t := .float) (t' := .int) (by decide) (by decide)))
  have N3 := Fr.snoc X3 N0 g_amap
  have Z3 : n0 ≤ h3.size := Nat.le_trans Z0 (Keep.of_wr W3).1
  have K3 : Keep h0 h3 [amap] := K0.wr W3 (Or.inl (List.mem_of_getElem? (i := 0) rfl))
  obtain ⟨T4, h4, k4, X4, e4, E4, A4, Ov4, st4⟩ := newR X3 hx hZ hown (hw _ (List.mem_of_getElem? (i := 128) rfl)) (hw _ (List.mem_of_getElem? (i := 129) rfl)) e3 (g := (mkF m 133 #[.val (.ref amap), .val .null, .val (.int (0 : Int32)), .val (.int (0 : Int32)), .val (.int (16 : Int32)), .val (.int (12 : Int32)), .unset, .unset, .unset, .unset, .unset, .unset, .unset, .unset] [(.int (16 : Int32))])) rfl (hb hby d16_133) rfl (by decide) (cap := 16) (by decide) (by decide) (by decide) (by decide)
  obtain ⟨b4, g4⟩ : ∃ z, z = h3.size := ⟨_, rfl⟩
  rw [← g4] at A4 st4
  have ne4_amap : amap ≠ b4 := Nat.ne_of_lt (Nat.lt_of_lt_of_le c3_E_amap.lt (Nat.le_of_eq g4.symm))
  have g_b4 : n0 ≤ b4 := Nat.le_trans Z3 (Nat.le_of_eq g4.symm)
  have sz_b4 : h0.size ≤ b4 := Nat.le_trans K3.1 (Nat.le_of_eq g4.symm)
  have K4 : Keep h0 h4 [amap] := K3.ext E4
  have c4_E_amap := c3_E_amap.ext E4
  have c4_F_amap_table := c3_F_amap_table.ext E4
  have c4_F_amap_threshold := c3_F_amap_threshold.ext E4
  have c4_F_amap_modCount := c3_F_amap_modCount.ext E4
  have c4_F_amap_size := c3_F_amap_size.ext E4
  have c4_F_amap_loadFactor := c3_F_amap_loadFactor.ext E4
  have V4 : Arv Z h4 b4 k4 (.object "java/util/HashMap$Node") (16 : Int32) [.null, .null, .null, .null, .null, .null, .null, .null, .null, .null, .null, .null, .null, .null, .null, .null] .null := (Arv.new A4 (by decide)).pad (pad_rep [] .null 16)
  obtain ⟨T5, h5, X5, e5, W5, st5⟩ := putF X4 hx hZ hown (host := "") (Or.inl (hw _ (List.mem_of_getElem? (i := 119) rfl))) Via.refl e4 c4_F_amap_table c4_E_amap (Or.inl (hw _ (List.mem_of_getElem? (i := 120) rfl))) (hw _ (List.mem_of_getElem? (i := 29) rfl)) (ty := (.array (.object "java/util/HashMap$Node"))) (by decide) rfl rfl (g := (mkF m 141 #[.val (.ref amap), .val .null, .val (.int (0 : Int32)), .val (.int (0 : Int32)), .val (.int (16 : Int32)), .val (.int (12 : Int32)), .val (.ref b4), .unset, .unset, .unset, .unset, .unset, .unset, .unset] [(.ref b4), (.ref amap)])) rfl rfl (hb hby d16_141)
  have c5_E_amap := c4_E_amap.wr W5
  have c5_F_amap_table := c4_F_amap_table.same W5
  have c5_F_amap_threshold := c4_F_amap_threshold.other W5 (Or.inr (slot_ne (Or.inl (hw _ (List.mem_of_getElem? (i := 127) rfl))) (Or.inl (hw _ (List.mem_of_getElem? (i := 120) rfl))) (by decide) (t := .int) (t' := (.array (.object "java/util/HashMap$Node"))) (by decide) (by decide)))
  have c5_F_amap_modCount := c4_F_amap_modCount.other W5 (Or.inr (slot_ne (Or.inl (hw _ (List.mem_of_getElem? (i := 151) rfl))) (Or.inl (hw _ (List.mem_of_getElem? (i := 120) rfl))) (by decide) (t := .int) (t' := (.array (.object "java/util/HashMap$Node"))) (by decide) (by decide)))
  have c5_F_amap_size := c4_F_amap_size.other W5 (Or.inr (slot_ne (Or.inl (hw _ (List.mem_of_getElem? (i := 153) rfl))) (Or.inl (hw _ (List.mem_of_getElem? (i := 120) rfl))) (by decide) (t := .int) (t' := (.array (.object "java/util/HashMap$Node"))) (by decide) (by decide)))
  have c5_F_amap_loadFactor := c4_F_amap_loadFactor.other W5 (Or.inr (slot_ne (Or.inr (hw _ (List.mem_of_getElem? (i := 44) rfl))) (Or.inl (hw _ (List.mem_of_getElem? (i := 120) rfl))) (by decide) (t := .float) (t' := (.array (.object "java/util/HashMap$Node"))) (by decide) (by decide)))
  have c5_V_b4 := V4.other W5 (Ne.symm ne4_amap)
  have N5 := Fr.snoc X5 N3 g_amap
  have K5 : Keep h0 h5 [amap] := K4.wr W5 (Or.inl (List.mem_of_getElem? (i := 0) rfl))
  obtain ⟨fs, hr, hrun, hended, hW, hsame⟩ := X5.leave (v := some (.ref b4)) (fun h => by rw [Bd.returns] at h; cases h)
  refine ⟨_, _, pre0 _ ?_, hrun, hended, _, _, rfl, ?_, ⟨_, rfl⟩, hW, hsame.mono (by decide) (by decide)⟩
  · show Steps p.tables e below (s₁.setTop (mkF m 0 #[.val (.ref amap), .unset, .unset, .unset, .unset, .unset, .unset, .unset, .unset, .unset, .unset, .unset, .unset, .unset] [])) _
    refine XS.aloadN X0.here hx rfl (hb hby d16_0) rfl rfl ?_
    show Steps p.tables e below (s₁.setTop (mkF m 1 #[.val (.ref amap), .unset, .unset, .unset, .unset, .unset, .unset, .unset, .unset, .unset, .unset, .unset, .unset, .unset] [(.ref amap)])) _
    refine st1 _ ?_
    show Steps p.tables e below (T1.setTop (mkF m 4 #[.val (.ref amap), .unset, .unset, .unset, .unset, .unset, .unset, .unset, .unset, .unset, .unset, .unset, .unset, .unset] [.null])) _
    refine XS.astoreN X1.here hx rfl (hb hby d16_4) rfl rfl (l' := #[.val (.ref amap), .val .null, .unset, .unset, .unset, .unset, .unset, .unset, .unset, .unset, .unset, .unset, .unset, .unset]) rfl ?_
    refine XS.aloadN X1.here hx rfl (hb hby d16_5) rfl rfl ?_
    show Steps p.tables e below (T1.setTop (mkF m 6 #[.val (.ref amap), .val .null, .unset, .unset, .unset, .unset, .unset, .unset, .unset, .unset, .unset, .unset, .unset, .unset] [.null])) _
    refine XS.ifnonnullNo X1.here hx rfl (hb hby d16_6) rfl ?_
    refine XS.iconst X1.here hx rfl (hb hby d16_9) ?_
    refine XS.goto X1.here hx rfl (pc0 := 10) (pc' := 15) rfl (hb hby d16_10) (by decide) (by decide) ?_
    refine XS.istoreN X1.here hx rfl (hb hby d16_15) rfl (l' := #[.val (.ref amap), .val .null, .val (.int (0 : Int32)), .unset, .unset, .unset, .unset, .unset, .unset, .unset, .unset, .unset, .unset, .unset]) rfl ?_
    show Steps p.tables e below (T1.setTop (mkF m 16 #[.val (.ref amap), .val .null, .val (.int (0 : Int32)), .unset, .unset, .unset, .unset, .unset, .unset, .unset, .unset, .unset, .unset, .unset] [])) _
    refine XS.aloadN X1.here hx rfl (hb hby d16_16) rfl rfl ?_
    show Steps p.tables e below (T1.setTop (mkF m 17 #[.val (.ref amap), .val .null, .val (.int (0 : Int32)), .unset, .unset, .unset, .unset, .unset, .unset, .unset, .unset, .unset, .unset, .unset] [(.ref amap)])) _
    refine st2 _ ?_
    refine XS.istoreN X2.here hx rfl (hb hby d16_20) rfl (l' := #[.val (.ref amap), .val .null, .val (.int (0 : Int32)), .val (.int (0 : Int32)), .unset, .unset, .unset, .unset, .unset, .unset, .unset, .unset, .unset, .unset]) rfl ?_
    refine XS.iconst X2.here hx rfl (hb hby d16_21) ?_
    refine XS.istore X2.here hx rfl (hb hby d16_22) rfl (l' := #[.val (.ref amap), .val .null, .val (.int (0 : Int32)), .val (.int (0 : Int32)), .unset, .val (.int (0 : Int32)), .unset, .unset, .unset, .unset, .unset, .unset, .unset, .unset]) rfl ?_
    show Steps p.tables e below (T2.setTop (mkF m 24 #[.val (.ref amap), .val .null, .val (.int (0 : Int32)), .val (.int (0 : Int32)), .unset, .val (.int (0 : Int32)), .unset, .unset, .unset, .unset, .unset, .unset, .unset, .unset] [])) _
    refine XS.iloadN X2.here hx rfl (hb hby d16_24) rfl ?_
    show Steps p.tables e below (T2.setTop (mkF m 25 #[.val (.ref amap), .val .null, .val (.int (0 : Int32)), .val (.int (0 : Int32)), .unset, .val (.int (0 : Int32)), .unset, .unset, .unset, .unset, .unset, .unset, .unset, .unset] [(.int (0 : Int32))])) _
    refine XS.ifYes X2.here hx rfl (pc0 := 25) (pc' := 67) rfl (hb hby d16_25) rfl ((if0 _ _).trans (flt (by decide : ¬ ((0 : Int32) < (0 : Int32)))).2.2.2) (by decide) (by decide) ?_
    refine XS.iloadN X2.here hx rfl (hb hby d16_67) rfl ?_
    show Steps p.tables e below (T2.setTop (mkF m 68 #[.val (.ref amap), .val .null, .val (.int (0 : Int32)), .val (.int (0 : Int32)), .unset, .val (.int (0 : Int32)), .unset, .unset, .unset, .unset, .unset, .unset, .unset, .unset] [(.int (0 : Int32))])) _
    refine XS.ifYes X2.here hx rfl (pc0 := 68) (pc' := 77) rfl (hb hby d16_68) rfl ((if0 _ _).trans (flt (by decide : ¬ ((0 : Int32) < (0 : Int32)))).2.2.2) (by decide) (by decide) ?_
    refine XS.bipush X2.here hx rfl (hb hby d16_77) ?_
    refine XS.istore X2.here hx rfl (hb hby d16_79) rfl (l' := #[.val (.ref amap), .val .null, .val (.int (0 : Int32)), .val (.int (0 : Int32)), .val (.int (16 : Int32)), .val (.int (0 : Int32)), .unset, .unset, .unset, .unset, .unset, .unset, .unset, .unset]) rfl ?_
    refine XS.bipush X2.here hx rfl (hb hby d16_81) ?_
    show Steps p.tables e below (T2.setTop (mkF m 83 #[.val (.ref amap), .val .null, .val (.int (0 : Int32)), .val (.int (0 : Int32)), .val (.int (16 : Int32)), .val (.int (0 : Int32)), .unset, .unset, .unset, .unset, .unset, .unset, .unset, .unset] [(.int (12 : Int32))])) _
    refine XS.istore X2.here hx rfl (hb hby d16_83) rfl (l' := #[.val (.ref amap), .val .null, .val (.int (0 : Int32)), .val (.int (0 : Int32)), .val (.int (16 : Int32)), .val (.int (12 : Int32)), .unset, .unset, .unset, .unset, .unset, .unset, .unset, .unset]) rfl ?_
    refine XS.iload X2.here hx rfl (hb hby d16_85) rfl ?_
    show Steps p.tables e below (T2.setTop (mkF m 87 #[.val (.ref amap), .val .null, .val (.int (0 : Int32)), .val (.int (0 : Int32)), .val (.int (16 : Int32)), .val (.int (12 : Int32)), .unset, .unset, .unset, .unset, .unset, .unset, .unset, .unset] [(.int (12 : Int32))])) _
    refine XS.ifYes X2.here hx rfl (pc0 := 87) (pc' := 125) rfl (hb hby d16_87) rfl ((if0 _ _).trans (feq (by decide : ¬ ((12 : Int32) = (0 : Int32)))).2) (by decide) (by decide) ?_
    refine XS.aloadN X2.here hx rfl (hb hby d16_125) rfl rfl ?_
    refine XS.iload X2.here hx rfl (hb hby d16_126) rfl ?_
    show Steps p.tables e below (T2.setTop (mkF m 128 #[.val (.ref amap), .val .null, .val (.int (0 : Int32)), .val (.int (0 : Int32)), .val (.int (16 : Int32)), .val (.int (12 : Int32)), .unset, .unset, .unset, .unset, .unset, .unset, .unset, .unset] [(.int (12 : Int32)), (.ref amap)])) _
    refine st3 _ ?_
    refine XS.iload X3.here hx rfl (hb hby d16_131) rfl ?_
    show Steps p.tables e below (T3.setTop (mkF m 133 #[.val (.ref amap), .val .null, .val (.int (0 : Int32)), .val (.int (0 : Int32)), .val (.int (16 : Int32)), .val (.int (12 : Int32)), .unset, .unset, .unset, .unset, .unset, .unset, .unset, .unset] [(.int (16 : Int32))])) _
    refine st4 _ ?_
    show Steps p.tables e below (T4.setTop (mkF m 136 #[.val (.ref amap), .val .null, .val (.int (0 : Int32)), .val (.int (0 : Int32)), .val (.int (16 : Int32)), .val (.int (12 : Int32)), .unset, .unset, .unset, .unset, .unset, .unset, .unset, .unset] [(.ref b4)])) _
    refine XS.astore X4.here hx rfl (hb hby d16_136) rfl rfl (l' := #[.val (.ref amap), .val .null, .val (.int (0 : Int32)), .val (.int (0 : Int32)), .val (.int (16 : Int32)), .val (.int (12 : Int32)), .val (.ref b4), .unset, .unset, .unset, .unset, .unset, .unset, .unset]) rfl ?_
    refine XS.aloadN X4.here hx rfl (hb hby d16_138) rfl rfl ?_
    refine XS.aload X4.here hx rfl (hb hby d16_139) rfl rfl ?_
    show Steps p.tables e below (T4.setTop (mkF m 141 #[.val (.ref amap), .val .null, .val (.int (0 : Int32)), .val (.int (0 : Int32)), .val (.int (16 : Int32)), .val (.int (12 : Int32)), .val (.ref b4), .unset, .unset, .unset, .unset, .unset, .unset, .unset] [(.ref b4), (.ref amap)])) _
    refine st5 _ ?_
    refine XS.aloadN X5.here hx rfl (hb hby d16_144) rfl rfl ?_
    show Steps p.tables e below (T5.setTop (mkF m 145 #[.val (.ref amap), .val .null, .val (.int (0 : Int32)), .val (.int (0 : Int32)), .val (.int (16 : Int32)), .val (.int (12 : Int32)), .val (.ref b4), .unset, .unset, .unset, .unset, .unset, .unset, .unset] [.null])) _
    refine XS.ifnullYes X5.here hx rfl (pc0 := 145) (pc' := 353) rfl (hb hby d16_145) rfl (by decide) (by decide) ?_
    refine XS.aload X5.here hx rfl (hb hby d16_353) rfl rfl ?_
    show Steps p.tables e below (T5.setTop (mkF m 355 #[.val (.ref amap), .val .null, .val (.int (0 : Int32)), .val (.int (0 : Int32)), .val (.int (16 : Int32)), .val (.int (12 : Int32)), .val (.ref b4), .unset, .unset, .unset, .unset, .unset, .unset, .unset] [(.ref b4)])) _
    jvm_step X5.here [X5.here.top, hx, (hb hby d16_355), X5.method', Bd.returns, Value.isRef, FieldType.isReference]
    first | (intro acts; rw [hr _ acts rfl rfl rfl]) | rw [hr _ _ rfl rfl rfl]
    exact Steps.refl _
  · show Q16 Z amap h0 n0 _ T5.heap _
    rw [e5]
    exact ⟨b4, k4, rfl, N5, K5, c5_E_amap, c5_F_amap_table, c5_F_amap_threshold, c5_F_amap_modCount, c5_F_amap_size, c5_F_amap_loadFactor, c5_V_b4, Ov4, g_b4, sz_b4⟩
theorem ef_18n (m : MethodId) (x0 : Addr) (x1 : Int32) (x3 : Addr) : entryFrame m #[(.ref x0), (.int x1), .null, (.ref x3), .null] 5 = mkF m 0 #[.val (.ref x0), .val (.int x1), .val .null, .val (.ref x3), .val .null] [] := by first | (simp [entryFrame, mkF, argsToLocals, Value.category]; done) | rfl
def Q18 (Z : State) (and0 : Addr) (apr : Addr)  (h0 : Heap) (n0 : Nat) (v : Option Value) (h : Heap) (L : List Loc) : Prop := v = none ∧ Fr n0 L ∧ Keep h0 h [and0] ∧ Exa Z h and0 "java/util/HashMap$Node" ∧ Fld Z h and0 "java/util/HashMap$Node" "hash" "I" (.int (0 : Int32)) ∧ Fld Z h and0 "java/util/HashMap$Node" "key" "Ljava/lang/Object;" .null ∧ Fld Z h and0 "java/util/HashMap$Node" "value" "Ljava/lang/Object;" (.ref apr) ∧ Fld Z h and0 "java/util/HashMap$Node" "next" "Ljava/util/HashMap$Node;" .null
set_option maxRecDepth 65536 in
set_option maxHeartbeats 40000000 in
theorem rm18 (l : Launch) (Z : State) (a0 : Array Value) (hw : ∀ d ∈ tables_1, d.before a0 Z = true) (ws : List Jvm.Cond) (and0 : Addr) (apr : Addr)  (h0 : Heap) (n0 : Nat) (Z0 : n0 ≤ h0.size) (E_and0 : Exa Z h0 and0 "java/util/HashMap$Node") (F_and0_hash : Fld Z h0 and0 "java/util/HashMap$Node" "hash" "I" (.int (0 : Int32))) (F_and0_key : Fld Z h0 and0 "java/util/HashMap$Node" "key" "Ljava/lang/Object;" .null) (F_and0_value : Fld Z h0 and0 "java/util/HashMap$Node" "value" "Ljava/lang/Object;" .null) (F_and0_next : Fld Z h0 and0 "java/util/HashMap$Node" "next" "Ljava/util/HashMap$Node;" .null) (g_and0 : n0 ≤ and0) :
    MetFree l (⟨"java/util/HashMap$Node", "<init>", "(ILjava/lang/Object;Ljava/lang/Object;Ljava/util/HashMap$Node;)V"⟩ : MethodName) (head1 (Jvm.Cond.code (⟨"java/util/HashMap$Node", "<init>", "(ILjava/lang/Object;Ljava/lang/Object;Ljava/util/HashMap$Node;)V"⟩ : MethodName) jdk_70_method_1_code 5 none :: ws) ({ frames := 1, cells := 0, slots := 0, locals := 12 } : Room)) (fun a U => a = #[(.ref and0), (.int (0 : Int32)), .null, (.ref apr), .null] ∧ Z.Warmed39 U.vm ∧ U.heap = h0) (fun _ _ _ _ _ => True) (fun _ U o U' => ∃ v L, o = .returned v ∧ Q18 Z and0 apr h0 n0 v U'.heap L ∧ FrameEnd U o U' L ({ frames := 1, cells := 0, slots := 0, locals := 12 } : Room).cells ({ frames := 1, cells := 0, slots := 0, locals := 12 } : Room).slots) := by
  refine MetFree.of_bodySF (plainFor_of_name pn_18) hisR ?_
  intro p e s m args below meth c s₁ Bd hml0 hP hK
  obtain ⟨rfl, hZ, hh⟩ := hP
  have hx := Bd.exec
  have hby := Bd.bytes
  have hml : c.maxLocals = 5 := hml0
  have hown : s.vm.findClass "java/util/HashMap$Node" = some m.cls := findClass_of_methodNamed Bd.named
  have hnm := (name_of_methodNamed Bd.named Bd.method).1
  have X0 : Stand p l e ({ frames := 1, cells := 0, slots := 0, locals := 12 } : Room) s m #[(.ref and0), (.int (0 : Int32)), .null, (.ref apr), .null] below meth c s₁ [] 0 0 := Stand.of_body Bd
  have e0 : s₁.heap = h0 := by rw [← hh, Bd.state]; rfl
  have N0 := Fr.nil n0
  have pre0 : ∀ t, Steps p.tables e below (s₁.setTop (mkF m 0 #[.val (.ref and0), .val (.int (0 : Int32)), .val .null, .val (.ref apr), .val .null] [])) t → Steps p.tables e below (s₁.setTop (entryFrame m #[(.ref and0), (.int (0 : Int32)), .null, (.ref apr), .null] 5)) t := fun t k => castTop (ef_18n m and0 (0 : Int32) apr) k
  have K0 : Keep h0 h0 [and0] := Keep.refl h0 _
  obtain ⟨T1, X1, e1, st1⟩ := initO X0 hx hZ hown (hw _ (List.mem_of_getElem? (i := 141) rfl)) (hw _ (List.mem_of_getElem? (i := 7) rfl)) (hw _ (List.mem_of_getElem? (i := 8) rfl)) e0 (g := (mkF m 1 #[.val (.ref and0), .val (.int (0 : Int32)), .val .null, .val (.ref apr), .val .null] [(.ref and0)])) rfl (by rw [hml]; rfl) rfl (hb hby d18_1) (by decide) (W := 0) (by show 2 * 0 + _ ≤ _; exact Nat.le_of_eq rfl) (by decide)
  obtain ⟨T2, h2, X2, e2, W2, st2⟩ := putF X1 hx hZ hown (host := "") (Or.inl (hw _ (List.mem_of_getElem? (i := 142) rfl))) Via.refl e1 F_and0_hash E_and0 (Or.inr ⟨(hw _ (List.mem_of_getElem? (i := 143) rfl)), rfl, hnm⟩) (hw _ (List.mem_of_getElem? (i := 135) rfl)) (ty := .int) (by decide) rfl rfl (g := (mkF m 6 #[.val (.ref and0), .val (.int (0 : Int32)), .val .null, .val (.ref apr), .val .null] [(.int (0 : Int32)), (.ref and0)])) rfl rfl (hb hby d18_6)
  have c2_E_and0 := E_and0.wr W2
  have c2_F_and0_hash := F_and0_hash.same W2
  have c2_F_and0_key := F_and0_key.other W2 (Or.inr (slot_ne (Or.inr (hw _ (List.mem_of_getElem? (i := 145) rfl))) (Or.inr (hw _ (List.mem_of_getElem? (i := 143) rfl))) (by decide) (t := (.object "java/lang/Object")) (t' := .int) (by decide) (by decide)))
  have c2_F_and0_value := F_and0_value.other W2 (Or.inr (slot_ne (Or.inl (hw _ (List.mem_of_getElem? (i := 147) rfl))) (Or.inr (hw _ (List.mem_of_getElem? (i := 143) rfl))) (by decide) (t := (.object "java/lang/Object")) (t' := .int) (by decide) (by decide)))
  have c2_F_and0_next := F_and0_next.other W2 (Or.inr (slot_ne (Or.inl (hw _ (List.mem_of_getElem? (i := 149) rfl))) (Or.inr (hw _ (List.mem_of_getElem? (i := 143) rfl))) (by decide) (t := (.object "java/util/HashMap$Node")) (t' := .int) (by decide) (by decide)))
  have N2 := Fr.snoc X2 N0 g_and0
  have K2 : Keep h0 h2 [and0] := K0.wr W2 (Or.inl (List.mem_of_getElem? (i := 0) rfl))
  obtain ⟨T3, h3, X3, e3, W3, st3⟩ := putF X2 hx hZ hown (host := "") (Or.inl (hw _ (List.mem_of_getElem? (i := 144) rfl))) Via.refl e2 c2_F_and0_key c2_E_and0 (Or.inr ⟨(hw _ (List.mem_of_getElem? (i := 145) rfl)), rfl, hnm⟩) (hw _ (List.mem_of_getElem? (i := 135) rfl)) (ty := (.object "java/lang/Object")) (by decide) rfl rfl (g := (mkF m 11 #[.val (.ref and0), .val (.int (0 : Int32)), .val .null, .val (.ref apr), .val .null] [.null, (.ref and0)])) rfl rfl (hb hby d18_11)
  have c3_E_and0 := c2_E_and0.wr W3
  have c3_F_and0_hash := c2_F_and0_hash.other W3 (Or.inr (slot_ne (Or.inr (hw _ (List.mem_of_getElem? (i := 143) rfl))) (Or.inr (hw _ (List.mem_of_getElem? (i := 145) rfl))) (by decide) (t := .int) (t' := (.object "java/lang/Object")) (by decide) (by decide)))
  have c3_F_and0_key := c2_F_and0_key.same W3
  have c3_F_and0_value := c2_F_and0_value.other W3 (Or.inr (slot_ne (Or.inl (hw _ (List.mem_of_getElem? (i := 147) rfl))) (Or.inr (hw _ (List.mem_of_getElem? (i := 145) rfl))) (by decide) (t := (.object "java/lang/Object")) (t' := (.object "java/lang/Object")) (by decide) (by decide)))
  have c3_F_and0_next := c2_F_and0_next.other W3 (Or.inr (slot_ne (Or.inl (hw _ (List.mem_of_getElem? (i := 149) rfl))) (Or.inr (hw _ (List.mem_of_getElem? (i := 145) rfl))) (by decide) (t := (.object "java/util/HashMap$Node")) (t' := (.object "java/lang/Object")) (by decide) (by decide)))
  have N3 := Fr.snoc X3 N2 g_and0
  have K3 : Keep h0 h3 [and0] := K2.wr W3 (Or.inl (List.mem_of_getElem? (i := 0) rfl))
  obtain ⟨T4, h4, X4, e4, W4, st4⟩ := putF X3 hx hZ hown (host := "") (Or.inl (hw _ (List.mem_of_getElem? (i := 146) rfl))) Via.refl e3 c3_F_and0_value c3_E_and0 (Or.inl (hw _ (List.mem_of_getElem? (i := 147) rfl))) (hw _ (List.mem_of_getElem? (i := 135) rfl)) (ty := (.object "java/lang/Object")) (by decide) rfl rfl (g := (mkF m 16 #[.val (.ref and0), .val (.int (0 : Int32)), .val .null, .val (.ref apr), .val .null] [(.ref apr), (.ref and0)])) rfl rfl (hb hby d18_16)
  have c4_E_and0 := c3_E_and0.wr W4
  have c4_F_and0_hash := c3_F_and0_hash.other W4 (Or.inr (slot_ne (Or.inr (hw _ (List.mem_of_getElem? (i := 143) rfl))) (Or.inl (hw _ (List.mem_of_getElem? (i := 147) rfl))) (by decide) (t := .int) (t' := (.object "java/lang/Object")) (by decide) (by decide)))
  have c4_F_and0_key := c3_F_and0_key.other W4 (Or.inr (slot_ne (Or.inr (hw _ (List.mem_of_getElem? (i := 145) rfl))) (Or.inl (hw _ (List.mem_of_getElem? (i := 147) rfl))) (by decide) (t := (.object "java/lang/Object")) (t' := (.object "java/lang/Object")) (by decide) (by decide)))
  have c4_F_and0_value := c3_F_and0_value.same W4
  have c4_F_and0_next := c3_F_and0_next.other W4 (Or.inr (slot_ne (Or.inl (hw _ (List.mem_of_getElem? (i := 149) rfl))) (Or.inl (hw _ (List.mem_of_getElem? (i := 147) rfl))) (by decide) (t := (.object "java/util/HashMap$Node")) (t' := (.object "java/lang/Object")) (by decide) (by decide)))
  have N4 := Fr.snoc X4 N3 g_and0
  have K4 : Keep h0 h4 [and0] := K3.wr W4 (Or.inl (List.mem_of_getElem? (i := 0) rfl))
  obtain ⟨T5, h5, X5, e5, W5, st5⟩ := putF X4 hx hZ hown (host := "") (Or.inl (hw _ (List.mem_of_getElem? (i := 148) rfl))) Via.refl e4 c4_F_and0_next c4_E_and0 (Or.inl (hw _ (List.mem_of_getElem? (i := 149) rfl))) (hw _ (List.mem_of_getElem? (i := 135) rfl)) (ty := (.object "java/util/HashMap$Node")) (by decide) rfl rfl (g := (mkF m 22 #[.val (.ref and0), .val (.int (0 : Int32)), .val .null, .val (.ref apr), .val .null] [.null, (.ref and0)])) rfl rfl (hb hby d18_22)
  have c5_E_and0 := c4_E_and0.wr W5
  have c5_F_and0_hash := c4_F_and0_hash.other W5 (Or.inr (slot_ne (Or.inr (hw _ (List.mem_of_getElem? (i := 143) rfl))) (Or.inl (hw _ (List.mem_of_getElem? (i := 149) rfl))) (by decide) (t := .int) (t' := (.object "java/util/HashMap$Node")) (by decide) (by decide)))
  have c5_F_and0_key := c4_F_and0_key.other W5 (Or.inr (slot_ne (Or.inr (hw _ (List.mem_of_getElem? (i := 145) rfl))) (Or.inl (hw _ (List.mem_of_getElem? (i := 149) rfl))) (by decide) (t := (.object "java/lang/Object")) (t' := (.object "java/util/HashMap$Node")) (by decide) (by decide)))
  have c5_F_and0_value := c4_F_and0_value.other W5 (Or.inr (slot_ne (Or.inl (hw _ (List.mem_of_getElem? (i := 147) rfl))) (Or.inl (hw _ (List.mem_of_getElem? (i := 149) rfl))) (by decide) (t := (.object "java/lang/Object")) (t' := (.object "java/util/HashMap$Node")) (by decide) (by decide)))
  have c5_F_and0_next := c4_F_and0_next.same W5
  have N5 := Fr.snoc X5 N4 g_and0
  have K5 : Keep h0 h5 [and0] := K4.wr W5 (Or.inl (List.mem_of_getElem? (i := 0) rfl))
  obtain ⟨fs, hr, hrun, hended, hW, hsame⟩ := X5.leave (v := none) (fun _ => rfl)
  refine ⟨_, _, pre0 _ ?_, hrun, hended, _, _, rfl, ?_, ⟨_, rfl⟩, hW, hsame.mono (by decide) (by decide)⟩
  · show Steps p.tables e below (s₁.setTop (mkF m 0 #[.val (.ref and0), .val (.int (0 : Int32)), .val .null, .val (.ref apr), .val .null] [])) _
    refine XS.aloadN X0.here hx rfl (hb hby d18_0) rfl rfl ?_
    show Steps p.tables e below (s₁.setTop (mkF m 1 #[.val (.ref and0), .val (.int (0 : Int32)), .val .null, .val (.ref apr), .val .null] [(.ref and0)])) _
    refine st1 _ ?_
    refine XS.aloadN X1.here hx rfl (hb hby d18_4) rfl rfl ?_
    refine XS.iloadN X1.here hx rfl (hb hby d18_5) rfl ?_
    show Steps p.tables e below (T1.setTop (mkF m 6 #[.val (.ref and0), .val (.int (0 : Int32)), .val .null, .val (.ref apr), .val .null] [(.int (0 : Int32)), (.ref and0)])) _
    refine st2 _ ?_
    refine XS.aloadN X2.here hx rfl (hb hby d18_9) rfl rfl ?_
    refine XS.aloadN X2.here hx rfl (hb hby d18_10) rfl rfl ?_
    show Steps p.tables e below (T2.setTop (mkF m 11 #[.val (.ref and0), .val (.int (0 : Int32)), .val .null, .val (.ref apr), .val .null] [.null, (.ref and0)])) _
    refine st3 _ ?_
    refine XS.aloadN X3.here hx rfl (hb hby d18_14) rfl rfl ?_
    refine XS.aloadN X3.here hx rfl (hb hby d18_15) rfl rfl ?_
    show Steps p.tables e below (T3.setTop (mkF m 16 #[.val (.ref and0), .val (.int (0 : Int32)), .val .null, .val (.ref apr), .val .null] [(.ref apr), (.ref and0)])) _
    refine st4 _ ?_
    refine XS.aloadN X4.here hx rfl (hb hby d18_19) rfl rfl ?_
    refine XS.aload X4.here hx rfl (hb hby d18_20) rfl rfl ?_
    show Steps p.tables e below (T4.setTop (mkF m 22 #[.val (.ref and0), .val (.int (0 : Int32)), .val .null, .val (.ref apr), .val .null] [.null, (.ref and0)])) _
    refine st5 _ ?_
    show Steps p.tables e below (T5.setTop (mkF m 25 #[.val (.ref and0), .val (.int (0 : Int32)), .val .null, .val (.ref apr), .val .null] [])) _
    exact X5.returnOut hx Bd.returns (hb hby d18_25) hr
  · show Q18 Z and0 apr h0 n0 _ T5.heap _
    rw [e5]
    exact ⟨rfl, N5, K5, c5_E_and0, c5_F_and0_hash, c5_F_and0_key, c5_F_and0_value, c5_F_and0_next⟩
theorem ef_17n (m : MethodId) (x0 : Addr) (x1 : Int32) (x3 : Addr) : entryFrame m #[(.ref x0), (.int x1), .null, (.ref x3), .null] 5 = mkF m 0 #[.val (.ref x0), .val (.int x1), .val .null, .val (.ref x3), .val .null] [] := by first | (simp [entryFrame, mkF, argsToLocals, Value.category]; done) | rfl
def Q17 (Z : State) (amap : Addr) (apr : Addr)  (h0 : Heap) (n0 : Nat) (v : Option Value) (h : Heap) (L : List Loc) : Prop := ∃ (b1 : Addr), v = some (.ref b1) ∧ Fr n0 L ∧ Keep h0 h [] ∧ Exa Z h b1 "java/util/HashMap$Node" ∧ Fld Z h b1 "java/util/HashMap$Node" "hash" "I" (.int (0 : Int32)) ∧ Fld Z h b1 "java/util/HashMap$Node" "key" "Ljava/lang/Object;" .null ∧ Fld Z h b1 "java/util/HashMap$Node" "value" "Ljava/lang/Object;" (.ref apr) ∧ Fld Z h b1 "java/util/HashMap$Node" "next" "Ljava/util/HashMap$Node;" .null ∧ n0 ≤ b1 ∧ h0.size ≤ b1
set_option maxRecDepth 65536 in
set_option maxHeartbeats 40000000 in
theorem rm17 (l : Launch) (Z : State) (a0 : Array Value) (hw : ∀ d ∈ tables_1, d.before a0 Z = true) (ws : List Jvm.Cond) (amap : Addr) (apr : Addr)  (h0 : Heap) (n0 : Nat) (Z0 : n0 ≤ h0.size)  :
    MetFree l (⟨"java/util/HashMap", "newNode", "(ILjava/lang/Object;Ljava/lang/Object;Ljava/util/HashMap$Node;)Ljava/util/HashMap$Node;"⟩ : MethodName) (head1 (Jvm.Cond.code (⟨"java/util/HashMap", "newNode", "(ILjava/lang/Object;Ljava/lang/Object;Ljava/util/HashMap$Node;)Ljava/util/HashMap$Node;"⟩ : MethodName) jdk_69_method_46_code 5 (some (.object "java/util/HashMap$Node")) :: ws) ({ frames := 2, cells := 1, slots := 4, locals := 29 } : Room)) (fun a U => a = #[(.ref amap), (.int (0 : Int32)), .null, (.ref apr), .null] ∧ Z.Warmed39 U.vm ∧ U.heap = h0) (fun _ _ _ _ _ => True) (fun _ U o U' => ∃ v L, o = .returned v ∧ Q17 Z amap apr h0 n0 v U'.heap L ∧ FrameEnd U o U' L ({ frames := 2, cells := 1, slots := 4, locals := 29 } : Room).cells ({ frames := 2, cells := 1, slots := 4, locals := 29 } : Room).slots) := by
  refine MetFree.of_bodySF (plainFor_of_name pn_17) hisR ?_
  intro p e s m args below meth c s₁ Bd hml0 hP hK
  obtain ⟨rfl, hZ, hh⟩ := hP
  have hx := Bd.exec
  have hby := Bd.bytes
  have hml : c.maxLocals = 5 := hml0
  have hown : s.vm.findClass "java/util/HashMap" = some m.cls := findClass_of_methodNamed Bd.named
  have X0 : Stand p l e ({ frames := 2, cells := 1, slots := 4, locals := 29 } : Room) s m #[(.ref amap), (.int (0 : Int32)), .null, (.ref apr), .null] below meth c s₁ [] 0 0 := Stand.of_body Bd
  have e0 : s₁.heap = h0 := by rw [← hh, Bd.state]; rfl
  have N0 := Fr.nil n0
  have pre0 : ∀ t, Steps p.tables e below (s₁.setTop (mkF m 0 #[.val (.ref amap), .val (.int (0 : Int32)), .val .null, .val (.ref apr), .val .null] [])) t → Steps p.tables e below (s₁.setTop (entryFrame m #[(.ref amap), (.int (0 : Int32)), .null, (.ref apr), .null] 5)) t := fun t k => castTop (ef_17n m amap (0 : Int32) apr) k
  have K0 : Keep h0 h0 [] := Keep.refl h0 _
  obtain ⟨T1, h1, X1, e1, E1, A1, D1, -, st1⟩ := newO X0 hx hZ hown (hw _ (List.mem_of_getElem? (i := 128) rfl)) (hw _ (List.mem_of_getElem? (i := 135) rfl)) (hw _ (List.mem_of_getElem? (i := 136) rfl)) e0 (g := (mkF m 0 #[.val (.ref amap), .val (.int (0 : Int32)), .val .null, .val (.ref apr), .val .null] [])) rfl (hb hby d17_0) (by decide) (by decide)
  obtain ⟨b1, g1⟩ : ∃ z, z = h0.size := ⟨_, rfl⟩
  rw [← g1] at A1 D1 st1
  have g_b1 : n0 ≤ b1 := Nat.le_trans Z0 (Nat.le_of_eq g1.symm)
  have Z1 : n0 ≤ h1.size := Nat.le_trans Z0 E1.1
  have sz_b1 : h0.size ≤ b1 := Nat.le_trans K0.1 (Nat.le_of_eq g1.symm)
  have K1 : Keep h0 h1 [] := K0.ext E1
  have F1_hash : Fld Z h1 b1 "java/util/HashMap$Node" "hash" "I" (.int (0 : Int32)) := D1 (Or.inr (hw _ (List.mem_of_getElem? (i := 143) rfl))) (ty := .int) (by decide)
  have F1_key : Fld Z h1 b1 "java/util/HashMap$Node" "key" "Ljava/lang/Object;" .null := D1 (Or.inr (hw _ (List.mem_of_getElem? (i := 145) rfl))) (ty := (.object "java/lang/Object")) (by decide)
  have F1_value : Fld Z h1 b1 "java/util/HashMap$Node" "value" "Ljava/lang/Object;" .null := D1 (Or.inl (hw _ (List.mem_of_getElem? (i := 147) rfl))) (ty := (.object "java/lang/Object")) (by decide)
  have F1_next : Fld Z h1 b1 "java/util/HashMap$Node" "next" "Ljava/util/HashMap$Node;" .null := D1 (Or.inl (hw _ (List.mem_of_getElem? (i := 149) rfl))) (ty := (.object "java/util/HashMap$Node")) (by decide)
  obtain ⟨_, _, ⟨T2, L2, k2, n2⟩, -, X2, ⟨Lc2, hQ2, l2, y2, z2⟩, st2⟩ := X1.specialBack hx (y := (⟨"java/util/HashMap$Node", "<init>", "(ILjava/lang/Object;Ljava/lang/Object;Ljava/util/HashMap$Node;)V"⟩ : MethodName)) rfl hown (mvT hZ (hw _ (List.mem_of_getElem? (i := 137) rfl))) (mvT hZ (hw _ (List.mem_of_getElem? (i := 138) rfl))) (mvT hZ (hw _ (List.mem_of_getElem? (i := 140) rfl))) (by decide) (backOf (W := 1) (rm18 l Z a0 hw [] b1 apr  h1 n0 Z1 A1 F1_hash F1_key F1_value F1_next g_b1) hZ (hw _ (List.mem_of_getElem? (i := 140) rfl)) (hw _ (List.mem_of_getElem? (i := 136) rfl)) (by decide) (by decide)) (g := (mkF m 9 #[.val (.ref amap), .val (.int (0 : Int32)), .val .null, .val (.ref apr), .val .null] [.null, (.ref apr), .null, (.int (0 : Int32)), (.ref b1), (.ref b1)])) rfl (by rw [hml]; rfl) (Steps.refl _) (a := b1) (argsL := [(.int (0 : Int32)), .null, (.ref apr), .null]) (rest := [(.ref b1)]) (lenOf pd_10 rfl) rfl (by show 2 * 0 + _ ≤ _; exact Nat.le_of_eq rfl) (hb hby d17_9) (fun _ _ => ⟨rfl, e1, (by decide : 1 + 0 ≤ _), (by decide : 4 + 0 ≤ _)⟩)
  dsimp only [Pt.U, Pt.locs, Pt.cells, Pt.slots] at X2 l2 y2 z2 st2 hQ2
  subst l2 y2 z2
  obtain ⟨rfl, N2q, K2q, t2_0, t2_1, t2_2, t2_3, t2_4⟩ := hQ2
  have N2 := Fr.app N0 N2q
  have K2 : Keep h0 T2.heap [] := K1.trans K2q (fun x hx => by simp only [List.mem_cons, List.not_mem_nil, or_false] at hx; rcases hx with rfl <;> first | exact (Or.inr sz_b1))
  obtain ⟨fs, hr, hrun, hended, hW, hsame⟩ := X2.leave (v := some (.ref b1)) (fun h => by rw [Bd.returns] at h; cases h)
  refine ⟨_, _, pre0 _ ?_, hrun, hended, _, _, rfl, ?_, ⟨_, rfl⟩, hW, hsame.mono (by decide) (by decide)⟩
  · show Steps p.tables e below (s₁.setTop (mkF m 0 #[.val (.ref amap), .val (.int (0 : Int32)), .val .null, .val (.ref apr), .val .null] [])) _
    refine st1 _ ?_
    show Steps p.tables e below (T1.setTop (mkF m 3 #[.val (.ref amap), .val (.int (0 : Int32)), .val .null, .val (.ref apr), .val .null] [(.ref b1)])) _
    refine XS.dup X1.here hx rfl (hb hby d17_3) rfl rfl ?_
    refine XS.iloadN X1.here hx rfl (hb hby d17_4) rfl ?_
    refine XS.aloadN X1.here hx rfl (hb hby d17_5) rfl rfl ?_
    refine XS.aloadN X1.here hx rfl (hb hby d17_6) rfl rfl ?_
    show Steps p.tables e below (T1.setTop (mkF m 7 #[.val (.ref amap), .val (.int (0 : Int32)), .val .null, .val (.ref apr), .val .null] [(.ref apr), .null, (.int (0 : Int32)), (.ref b1), (.ref b1)])) _
    refine XS.aload X1.here hx rfl (hb hby d17_7) rfl rfl ?_
    show Steps p.tables e below (T1.setTop (mkF m 9 #[.val (.ref amap), .val (.int (0 : Int32)), .val .null, .val (.ref apr), .val .null] [.null, (.ref apr), .null, (.int (0 : Int32)), (.ref b1), (.ref b1)])) _
    refine st2.trans ?_
    show Steps p.tables e below (T2.setTop (mkF m 12 #[.val (.ref amap), .val (.int (0 : Int32)), .val .null, .val (.ref apr), .val .null] [(.ref b1)])) _
    jvm_step X2.here [X2.here.top, hx, (hb hby d17_12), X2.method', Bd.returns, Value.isRef, FieldType.isReference]
    first | (intro acts; rw [hr _ acts rfl rfl rfl]) | rw [hr _ _ rfl rfl rfl]
    exact Steps.refl _
  · show Q17 Z amap apr h0 n0 _ T2.heap _
    exact ⟨b1, rfl, N2, K2, t2_0, t2_1, t2_2, t2_3, t2_4, g_b1, sz_b1⟩
theorem ef_15n (m : MethodId) (x0 : Addr) (x1 : Int32) (x3 : Addr) (x4 : Int32) (x5 : Int32) : entryFrame m #[(.ref x0), (.int x1), .null, (.ref x3), (.int x4), (.int x5)] 13 = mkF m 0 #[.val (.ref x0), .val (.int x1), .val .null, .val (.ref x3), .val (.int x4), .val (.int x5), .unset, .unset, .unset, .unset, .unset, .unset, .unset] [] := by first | (simp [entryFrame, mkF, argsToLocals, Value.category]; done) | rfl
def Q15a (Z : State) (amap : Addr) (apr : Addr)  (h0 : Heap) (n0 : Nat) (v : Option Value) (h : Heap) (L : List Loc) : Prop := ∃ (b4_2 : Addr), ∃ (k4_2 : ClassId), ∃ (b1_5 : Addr), v = some .null ∧ Fr n0 L ∧ Keep h0 h [amap] ∧ Exa Z h amap "java/util/HashMap" ∧ Fld Z h amap "java/util/HashMap" "table" "[Ljava/util/HashMap$Node;" (.ref b4_2) ∧ Fld Z h amap "java/util/HashMap" "threshold" "I" (.int (12 : Int32)) ∧ Fld Z h amap "java/util/HashMap" "modCount" "I" (.int (1 : Int32)) ∧ Fld Z h amap "java/util/HashMap" "size" "I" (.int (1 : Int32)) ∧ Fld Z h amap "java/util/HashMap" "loadFactor" "F" (.float (1061158912 : UInt32)) ∧ Arv Z h b4_2 k4_2 (.object "java/util/HashMap$Node") (16 : Int32) [(.ref b1_5), .null, .null, .null, .null, .null, .null, .null, .null, .null, .null, .null, .null, .null, .null, .null] .null ∧ Ovr Z k4_2 "java/util/HashMap$Node" ∧ n0 ≤ b4_2 ∧ h0.size ≤ b4_2 ∧ Exa Z h b1_5 "java/util/HashMap$Node" ∧ Fld Z h b1_5 "java/util/HashMap$Node" "hash" "I" (.int (0 : Int32)) ∧ Fld Z h b1_5 "java/util/HashMap$Node" "key" "Ljava/lang/Object;" .null ∧ Fld Z h b1_5 "java/util/HashMap$Node" "value" "Ljava/lang/Object;" (.ref apr) ∧ Fld Z h b1_5 "java/util/HashMap$Node" "next" "Ljava/util/HashMap$Node;" .null ∧ n0 ≤ b1_5 ∧ h0.size ≤ b1_5 ∧ b4_2 ≠ b1_5
set_option maxRecDepth 65536 in
set_option maxHeartbeats 40000000 in
theorem rm15a (l : Launch) (Z : State) (a0 : Array Value) (hw : ∀ d ∈ tables_1, d.before a0 Z = true) (ws : List Jvm.Cond) (amap : Addr) (apr : Addr)  (h0 : Heap) (n0 : Nat) (Z0 : n0 ≤ h0.size) (E_amap : Exa Z h0 amap "java/util/HashMap") (F_amap_table : Fld Z h0 amap "java/util/HashMap" "table" "[Ljava/util/HashMap$Node;" .null) (F_amap_threshold : Fld Z h0 amap "java/util/HashMap" "threshold" "I" (.int (0 : Int32))) (F_amap_modCount : Fld Z h0 amap "java/util/HashMap" "modCount" "I" (.int (0 : Int32))) (F_amap_size : Fld Z h0 amap "java/util/HashMap" "size" "I" (.int (0 : Int32))) (F_amap_loadFactor : Fld Z h0 amap "java/util/HashMap" "loadFactor" "F" (.float (1061158912 : UInt32))) (g_amap : n0 ≤ amap) :
    MetFree l (⟨"java/util/HashMap", "putVal", "(ILjava/lang/Object;Ljava/lang/Object;ZZ)Ljava/lang/Object;"⟩ : MethodName) (head1 (Jvm.Cond.code (⟨"java/util/HashMap", "putVal", "(ILjava/lang/Object;Ljava/lang/Object;ZZ)Ljava/lang/Object;"⟩ : MethodName) jdk_69_method_16_code 13 (some (.object "java/lang/Object")) :: ws) ({ frames := 3, cells := 2, slots := 20, locals := 47 } : Room)) (fun a U => a = #[(.ref amap), (.int (0 : Int32)), .null, (.ref apr), (.int (0 : Int32)), (.int (1 : Int32))] ∧ Z.Warmed39 U.vm ∧ U.heap = h0) (fun _ _ _ _ _ => True) (fun _ U o U' => ∃ v L, o = .returned v ∧ Q15a Z amap apr h0 n0 v U'.heap L ∧ FrameEnd U o U' L ({ frames := 3, cells := 2, slots := 20, locals := 47 } : Room).cells ({ frames := 3, cells := 2, slots := 20, locals := 47 } : Room).slots) := by
  refine MetFree.of_bodySF (plainFor_of_name pn_15) hisR ?_
  intro p e s m args below meth c s₁ Bd hml0 hP hK
  obtain ⟨rfl, hZ, hh⟩ := hP
  have hx := Bd.exec
  have hby := Bd.bytes
  have hml : c.maxLocals = 13 := hml0
  have hown : s.vm.findClass "java/util/HashMap" = some m.cls := findClass_of_methodNamed Bd.named
  have X0 : Stand p l e ({ frames := 3, cells := 2, slots := 20, locals := 47 } : Room) s m #[(.ref amap), (.int (0 : Int32)), .null, (.ref apr), (.int (0 : Int32)), (.int (1 : Int32))] below meth c s₁ [] 0 0 := Stand.of_body Bd
  have e0 : s₁.heap = h0 := by rw [← hh, Bd.state]; rfl
  have N0 := Fr.nil n0
  have pre0 : ∀ t, Steps p.tables e below (s₁.setTop (mkF m 0 #[.val (.ref amap), .val (.int (0 : Int32)), .val .null, .val (.ref apr), .val (.int (0 : Int32)), .val (.int (1 : Int32)), .unset, .unset, .unset, .unset, .unset, .unset, .unset] [])) t → Steps p.tables e below (s₁.setTop (entryFrame m #[(.ref amap), (.int (0 : Int32)), .null, (.ref apr), (.int (0 : Int32)), (.int (1 : Int32))] 13)) t := fun t k => castTop (ef_15n m amap (0 : Int32) apr (0 : Int32) (1 : Int32)) k
  have K0 : Keep h0 h0 [amap] := Keep.refl h0 _
  obtain ⟨T1, X1, e1, st1⟩ := getF X0 hx hZ hown (host := "") (Or.inl (hw _ (List.mem_of_getElem? (i := 119) rfl))) Via.refl e0 F_amap_table (g := (mkF m 1 #[.val (.ref amap), .val (.int (0 : Int32)), .val .null, .val (.ref apr), .val (.int (0 : Int32)), .val (.int (1 : Int32)), .unset, .unset, .unset, .unset, .unset, .unset, .unset] [(.ref amap)])) rfl rfl (hb hby d15_1)
  obtain ⟨cq2, kq2, q2a, q2b, q2c⟩ := isOf hZ e1 E_amap
  obtain ⟨_, _, ⟨T2, L2, k2, n2⟩, -, X2, ⟨Lc2, hQ2, l2, y2, z2⟩, st2⟩ := X1.virtualBack hx (y := (⟨"java/util/HashMap", "resize", "()[Ljava/util/HashMap$Node;"⟩ : MethodName)) (z := (⟨"java/util/HashMap", "resize", "()[Ljava/util/HashMap$Node;"⟩ : MethodName)) hown (mvT hZ (hw _ (List.mem_of_getElem? (i := 121) rfl))) (mvT hZ (hw _ (List.mem_of_getElem? (i := 122) rfl))) (notFace_of_selects (args := #[]) (mvT hZ (hw _ (List.mem_of_getElem? (i := 124) rfl)))) (mvT hZ (hw _ (List.mem_of_getElem? (i := 124) rfl))) (mvT hZ (hw _ (List.mem_of_getElem? (i := 123) rfl))) (by decide) (backOf (W := 0) (rm16 l Z a0 hw [] amap  h0 n0 Z0 E_amap F_amap_table F_amap_threshold F_amap_modCount F_amap_size F_amap_loadFactor g_amap) hZ (hw _ (List.mem_of_getElem? (i := 125) rfl)) (hw _ (List.mem_of_getElem? (i := 30) rfl)) (by decide) (by decide)) q2a q2c (g := (mkF m 20 #[.val (.ref amap), .val (.int (0 : Int32)), .val .null, .val (.ref apr), .val (.int (0 : Int32)), .val (.int (1 : Int32)), .val .null, .unset, .unset, .unset, .unset, .unset, .unset] [(.ref amap)])) rfl (by rw [hml]; rfl) (Steps.refl _) (argsL := []) (rest := []) (lenOf pd_8 rfl) rfl (by show 2 * 0 + _ ≤ _; exact Nat.le_of_eq rfl) (hb hby d15_20) (fun _ _ => ⟨rfl, e1, (by decide : 0 + 1 ≤ _), (by decide : 0 + 16 ≤ _)⟩)
  dsimp only [Pt.U, Pt.locs, Pt.cells, Pt.slots] at X2 l2 y2 z2 st2 hQ2
  subst l2 y2 z2
  obtain ⟨b4_2, k4_2, rfl, N2q, K2q, t2_0, t2_1, t2_2, t2_3, t2_4, t2_5, t2_6, t2_7, t2_8, t2_9⟩ := hQ2
  have N2 := Fr.app N0 N2q
  have nf2_amap_b4_2 : amap ≠ b4_2 := Nat.ne_of_lt (Nat.lt_of_lt_of_le E_amap.lt t2_9)
  have sz_b4_2 : h0.size ≤ b4_2 := Nat.le_trans K0.1 t2_9
  have Z2 : n0 ≤ T2.heap.size := Nat.le_trans Z0 K2q.1
  have K2 : Keep h0 T2.heap [amap] := K0.trans K2q (fun x hx => by simp only [List.mem_cons, List.not_mem_nil, or_false] at hx; rcases hx with rfl <;> first | exact (Or.inl (List.mem_of_getElem? (i := 0) rfl)))
  obtain ⟨cl_3, Ar_3, -, S_3, N_3, -, -⟩ := id t2_6
  obtain ⟨cl_4, Ar_4, -, S_4, N_4, H_4, -⟩ := id t2_6
  have hin_4 : ¬ ((0 : Int32) < 0 ∨ cl_4.slots.size ≤ ((0 : Int32)).toNatClampNeg) := inb_of S_4 ⟨by decide, by decide⟩
  have hat_4 : cl_4.slots[((0 : Int32)).toNatClampNeg]? = some .null := Has.at H_4 hin_4 rfl
  obtain ⟨cq5, kq5, q5a, q5b, q5c⟩ := isOf hZ rfl t2_0
  obtain ⟨_, _, ⟨T5, L5, k5, n5⟩, -, X5, ⟨Lc5, hQ5, l5, y5, z5⟩, st5⟩ := X2.virtualBack hx (y := (⟨"java/util/HashMap", "newNode", "(ILjava/lang/Object;Ljava/lang/Object;Ljava/util/HashMap$Node;)Ljava/util/HashMap$Node;"⟩ : MethodName)) (z := (⟨"java/util/HashMap", "newNode", "(ILjava/lang/Object;Ljava/lang/Object;Ljava/util/HashMap$Node;)Ljava/util/HashMap$Node;"⟩ : MethodName)) hown (mvT hZ (hw _ (List.mem_of_getElem? (i := 130) rfl))) (mvT hZ (hw _ (List.mem_of_getElem? (i := 131) rfl))) (notFace_of_selects (args := #[]) (mvT hZ (hw _ (List.mem_of_getElem? (i := 133) rfl)))) (mvT hZ (hw _ (List.mem_of_getElem? (i := 133) rfl))) (mvT hZ (hw _ (List.mem_of_getElem? (i := 132) rfl))) (by decide) (backOf (W := 2) (rm17 l Z a0 hw [] amap apr  T2.heap n0 Z2 ) hZ (hw _ (List.mem_of_getElem? (i := 134) rfl)) (hw _ (List.mem_of_getElem? (i := 30) rfl)) (by decide) (by decide)) q5a q5c (g := (mkF m 56 #[.val (.ref amap), .val (.int (0 : Int32)), .val .null, .val (.ref apr), .val (.int (0 : Int32)), .val (.int (1 : Int32)), .val (.ref b4_2), .val .null, .val (.int (16 : Int32)), .val (.int (0 : Int32)), .unset, .unset, .unset] [.null, (.ref apr), .null, (.int (0 : Int32)), (.ref amap), (.int (0 : Int32)), (.ref b4_2)])) rfl (by rw [hml]; rfl) (Steps.refl _) (argsL := [(.int (0 : Int32)), .null, (.ref apr), .null]) (rest := [(.int (0 : Int32)), (.ref b4_2)]) (lenOf pd_9 rfl) rfl (by show 2 * 0 + _ ≤ _; exact Nat.le_of_eq rfl) (hb hby d15_56) (fun _ _ => ⟨rfl, rfl, (by decide : 1 + 1 ≤ _), (by decide : 16 + 4 ≤ _)⟩)
  dsimp only [Pt.U, Pt.locs, Pt.cells, Pt.slots] at X5 l5 y5 z5 st5 hQ5
  subst l5 y5 z5
  obtain ⟨b1_5, rfl, N5q, K5q, t5_0, t5_1, t5_2, t5_3, t5_4, t5_5, t5_6⟩ := hQ5
  have N5 := Fr.app N2 N5q
  have nf5_amap_b1_5 : amap ≠ b1_5 := Nat.ne_of_lt (Nat.lt_of_lt_of_le t2_0.lt t5_6)
  have nf5_b4_2_b1_5 : b4_2 ≠ b1_5 := Nat.ne_of_lt (Nat.lt_of_lt_of_le t2_6.lt t5_6)
  have sz_b1_5 : h0.size ≤ b1_5 := Nat.le_trans K2.1 t5_6
  have c5_E_amap := t2_0.keep K5q
  have c5_F_amap_table := t2_1.keep K5q (by simp)
  have c5_F_amap_threshold := t2_2.keep K5q (by simp)
  have c5_F_amap_modCount := t2_3.keep K5q (by simp)
  have c5_F_amap_size := t2_4.keep K5q (by simp)
  have c5_F_amap_loadFactor := t2_5.keep K5q (by simp)
  have c5_V_b4_2 := t2_6.keep K5q (by simp)
  have Z5 : n0 ≤ T5.heap.size := Nat.le_trans Z2 K5q.1
  have K5 : Keep h0 T5.heap [amap] := K2.trans K5q (fun x hx => by cases hx)
  obtain ⟨cl_6, Ar_6, q_6, S_6, N_6, H_6, G_6⟩ := id c5_V_b4_2
  have hin_6 : ¬ ((0 : Int32) < 0 ∨ cl_6.slots.size ≤ ((0 : Int32)).toNatClampNeg) := inb_of S_6 ⟨by decide, by decide⟩
  obtain ⟨T7, h7, X7, e7, W7, st7⟩ := stR X5 hx hZ rfl Ar_6 (j := (0 : Int32)) hin_6 rfl (Sto.ofV Ar_6 q_6 t2_7 (Ins.self t5_0)) (g := (mkF m 59 #[.val (.ref amap), .val (.int (0 : Int32)), .val .null, .val (.ref apr), .val (.int (0 : Int32)), .val (.int (1 : Int32)), .val (.ref b4_2), .val .null, .val (.int (16 : Int32)), .val (.int (0 : Int32)), .unset, .unset, .unset] [(.ref b1_5), (.int (0 : Int32)), (.ref b4_2)])) rfl rfl (hb hby d15_59)
  have V7 : Arv Z h7 b4_2 k4_2 (.object "java/util/HashMap$Node") (16 : Int32) [(.ref b1_5), .null, .null, .null, .null, .null, .null, .null, .null, .null, .null, .null, .null, .null, .null, .null] .null := Arv.set Ar_6 q_6 S_6 N_6 H_6 G_6 rfl W7 0 rfl (Nat.le_of_ble_eq_true rfl)
  have c7_E_amap := c5_E_amap.wr W7
  have c7_F_amap_table := c5_F_amap_table.other W7 (Or.inl nf2_amap_b4_2)
  have c7_F_amap_threshold := c5_F_amap_threshold.other W7 (Or.inl nf2_amap_b4_2)
  have c7_F_amap_modCount := c5_F_amap_modCount.other W7 (Or.inl nf2_amap_b4_2)
  have c7_F_amap_size := c5_F_amap_size.other W7 (Or.inl nf2_amap_b4_2)
  have c7_F_amap_loadFactor := c5_F_amap_loadFactor.other W7 (Or.inl nf2_amap_b4_2)
  have c7_E_b1_5 := t5_0.wr W7
  have c7_F_b1_5_hash := t5_1.other W7 (Or.inl (Ne.symm nf5_b4_2_b1_5))
  have c7_F_b1_5_key := t5_2.other W7 (Or.inl (Ne.symm nf5_b4_2_b1_5))
  have c7_F_b1_5_value := t5_3.other W7 (Or.inl (Ne.symm nf5_b4_2_b1_5))
  have c7_F_b1_5_next := t5_4.other W7 (Or.inl (Ne.symm nf5_b4_2_b1_5))
  have N7 := Fr.snoc X7 N5 t2_8
  have Z7 : n0 ≤ h7.size := Nat.le_trans Z5 (Keep.of_wr W7).1
  have K7 : Keep h0 h7 [amap] := K5.wr W7 (Or.inr sz_b4_2)
  obtain ⟨T8, X8, e8, st8⟩ := getF X7 hx hZ hown (host := "") (Or.inl (hw _ (List.mem_of_getElem? (i := 150) rfl))) Via.refl e7 c7_F_amap_modCount (g := (mkF m 261 #[.val (.ref amap), .val (.int (0 : Int32)), .val .null, .val (.ref apr), .val (.int (0 : Int32)), .val (.int (1 : Int32)), .val (.ref b4_2), .val .null, .val (.int (16 : Int32)), .val (.int (0 : Int32)), .unset, .unset, .unset] [(.ref amap), (.ref amap)])) rfl rfl (hb hby d15_261)
  obtain ⟨T9, h9, X9, e9, W9, st9⟩ := putF X8 hx hZ hown (host := "") (Or.inl (hw _ (List.mem_of_getElem? (i := 150) rfl))) Via.refl e8 c7_F_amap_modCount c7_E_amap (Or.inl (hw _ (List.mem_of_getElem? (i := 151) rfl))) (hw _ (List.mem_of_getElem? (i := 29) rfl)) (ty := .int) (by decide) rfl rfl (g := (mkF m 266 #[.val (.ref amap), .val (.int (0 : Int32)), .val .null, .val (.ref apr), .val (.int (0 : Int32)), .val (.int (1 : Int32)), .val (.ref b4_2), .val .null, .val (.int (16 : Int32)), .val (.int (0 : Int32)), .unset, .unset, .unset] [(.int (1 : Int32)), (.ref amap)])) rfl rfl (hb hby d15_266)
  have c9_E_amap := c7_E_amap.wr W9
  have c9_F_amap_table := c7_F_amap_table.other W9 (Or.inr (slot_ne (Or.inl (hw _ (List.mem_of_getElem? (i := 120) rfl))) (Or.inl (hw _ (List.mem_of_getElem? (i := 151) rfl))) (by decide) (t := (.array (.object "java/util/HashMap$Node"))) (t' := .int) (by decide) (by decide)))
  have c9_F_amap_threshold := c7_F_amap_threshold.other W9 (Or.inr (slot_ne (Or.inl (hw _ (List.mem_of_getElem? (i := 127) rfl))) (Or.inl (hw _ (List.mem_of_getElem? (i := 151) rfl))) (by decide) (t := .int) (t' := .int) (by decide) (by decide)))
  have c9_F_amap_modCount := c7_F_amap_modCount.same W9
  have c9_F_amap_size := c7_F_amap_size.other W9 (Or.inr (slot_ne (Or.inl (hw _ (List.mem_of_getElem? (i := 153) rfl))) (Or.inl (hw _ (List.mem_of_getElem? (i := 151) rfl))) (by decide) (t := .int) (t' := .int) (by decide) (by decide)))
  have c9_F_amap_loadFactor := c7_F_amap_loadFactor.other W9 (Or.inr (slot_ne (Or.inr (hw _ (List.mem_of_getElem? (i := 44) rfl))) (Or.inl (hw _ (List.mem_of_getElem? (i := 151) rfl))) (by decide) (t := .float) (t' := .int) (by decide) (by decide)))
  have c9_V_b4_2 := V7.other W9 (Ne.symm nf2_amap_b4_2)
  have c9_E_b1_5 := c7_E_b1_5.wr W9
  have c9_F_b1_5_hash := c7_F_b1_5_hash.other W9 (Or.inl (Ne.symm nf5_amap_b1_5))
  have c9_F_b1_5_key := c7_F_b1_5_key.other W9 (Or.inl (Ne.symm nf5_amap_b1_5))
  have c9_F_b1_5_value := c7_F_b1_5_value.other W9 (Or.inl (Ne.symm nf5_amap_b1_5))
  have c9_F_b1_5_next := c7_F_b1_5_next.other W9 (Or.inl (Ne.symm nf5_amap_b1_5))
  have N9 := Fr.snoc X9 N7 g_amap
  have Z9 : n0 ≤ h9.size := Nat.le_trans Z7 (Keep.of_wr W9).1
  have K9 : Keep h0 h9 [amap] := K7.wr W9 (Or.inl (List.mem_of_getElem? (i := 0) rfl))
  obtain ⟨T10, X10, e10, st10⟩ := getF X9 hx hZ hown (host := "") (Or.inl (hw _ (List.mem_of_getElem? (i := 152) rfl))) Via.refl e9 c9_F_amap_size (g := (mkF m 271 #[.val (.ref amap), .val (.int (0 : Int32)), .val .null, .val (.ref apr), .val (.int (0 : Int32)), .val (.int (1 : Int32)), .val (.ref b4_2), .val .null, .val (.int (16 : Int32)), .val (.int (0 : Int32)), .unset, .unset, .unset] [(.ref amap), (.ref amap)])) rfl rfl (hb hby d15_271)
  obtain ⟨T11, h11, X11, e11, W11, st11⟩ := putF X10 hx hZ hown (host := "") (Or.inl (hw _ (List.mem_of_getElem? (i := 152) rfl))) Via.refl e10 c9_F_amap_size c9_E_amap (Or.inl (hw _ (List.mem_of_getElem? (i := 153) rfl))) (hw _ (List.mem_of_getElem? (i := 29) rfl)) (ty := .int) (by decide) rfl rfl (g := (mkF m 277 #[.val (.ref amap), .val (.int (0 : Int32)), .val .null, .val (.ref apr), .val (.int (0 : Int32)), .val (.int (1 : Int32)), .val (.ref b4_2), .val .null, .val (.int (16 : Int32)), .val (.int (0 : Int32)), .unset, .unset, .unset] [(.int (1 : Int32)), (.ref amap), (.int (1 : Int32))])) rfl rfl (hb hby d15_277)
  have c11_E_amap := c9_E_amap.wr W11
  have c11_F_amap_table := c9_F_amap_table.other W11 (Or.inr (slot_ne (Or.inl (hw _ (List.mem_of_getElem? (i := 120) rfl))) (Or.inl (hw _ (List.mem_of_getElem? (i := 153) rfl))) (by decide) (t := (.array (.object "java/util/HashMap$Node"))) (t' := .int) (by decide) (by decide)))
  have c11_F_amap_threshold := c9_F_amap_threshold.other W11 (Or.inr (slot_ne (Or.inl (hw _ (List.mem_of_getElem? (i := 127) rfl))) (Or.inl (hw _ (List.mem_of_getElem? (i := 153) rfl))) (by decide) (t := .int) (t' := .int) (by decide) (by decide)))
  have c11_F_amap_modCount := c9_F_amap_modCount.other W11 (Or.inr (slot_ne (Or.inl (hw _ (List.mem_of_getElem? (i := 151) rfl))) (Or.inl (hw _ (List.mem_of_getElem? (i := 153) rfl))) (by decide) (t := .int) (t' := .int) (by decide) (by decide)))
  have c11_F_amap_size := c9_F_amap_size.same W11
  have c11_F_amap_loadFactor := c9_F_amap_loadFactor.other W11 (Or.inr (slot_ne (Or.inr (hw _ (List.mem_of_getElem? (i := 44) rfl))) (Or.inl (hw _ (List.mem_of_getElem? (i := 153) rfl))) (by decide) (t := .float) (t' := .int) (by decide) (by decide)))
  have c11_V_b4_2 := c9_V_b4_2.other W11 (Ne.symm nf2_amap_b4_2)
  have c11_E_b1_5 := c9_E_b1_5.wr W11
  have c11_F_b1_5_hash := c9_F_b1_5_hash.other W11 (Or.inl (Ne.symm nf5_amap_b1_5))
  have c11_F_b1_5_key := c9_F_b1_5_key.other W11 (Or.inl (Ne.symm nf5_amap_b1_5))
  have c11_F_b1_5_value := c9_F_b1_5_value.other W11 (Or.inl (Ne.symm nf5_amap_b1_5))
  have c11_F_b1_5_next := c9_F_b1_5_next.other W11 (Or.inl (Ne.symm nf5_amap_b1_5))
  have N11 := Fr.snoc X11 N9 g_amap
  have Z11 : n0 ≤ h11.size := Nat.le_trans Z9 (Keep.of_wr W11).1
  have K11 : Keep h0 h11 [amap] := K9.wr W11 (Or.inl (List.mem_of_getElem? (i := 0) rfl))
  obtain ⟨T12, X12, e12, st12⟩ := getF X11 hx hZ hown (host := "") (Or.inl (hw _ (List.mem_of_getElem? (i := 126) rfl))) Via.refl e11 c11_F_amap_threshold (g := (mkF m 281 #[.val (.ref amap), .val (.int (0 : Int32)), .val .null, .val (.ref apr), .val (.int (0 : Int32)), .val (.int (1 : Int32)), .val (.ref b4_2), .val .null, .val (.int (16 : Int32)), .val (.int (0 : Int32)), .unset, .unset, .unset] [(.ref amap), (.int (1 : Int32))])) rfl rfl (hb hby d15_281)
  obtain ⟨cq13, kq13, q13a, q13b, q13c⟩ := isOf hZ e12 c11_E_amap
  obtain ⟨_, _, ⟨T13, L13, k13, n13⟩, -, X13, ⟨Lc13, hQ13, l13, y13, z13⟩, st13⟩ := X12.virtualBack hx (y := (⟨"java/util/HashMap", "afterNodeInsertion", "(Z)V"⟩ : MethodName)) (z := (⟨"java/util/HashMap", "afterNodeInsertion", "(Z)V"⟩ : MethodName)) hown (mvT hZ (hw _ (List.mem_of_getElem? (i := 154) rfl))) (mvT hZ (hw _ (List.mem_of_getElem? (i := 155) rfl))) (notFace_of_selects (args := #[]) (mvT hZ (hw _ (List.mem_of_getElem? (i := 157) rfl)))) (mvT hZ (hw _ (List.mem_of_getElem? (i := 157) rfl))) (mvT hZ (hw _ (List.mem_of_getElem? (i := 156) rfl))) (by decide) (backOf (W := 0) (rm19 l Z a0 hw [] amap (1 : Int32) h11 n0 Z11) hZ (hw _ (List.mem_of_getElem? (i := 158) rfl)) (hw _ (List.mem_of_getElem? (i := 30) rfl)) (by decide) (by decide)) q13a q13c (g := (mkF m 295 #[.val (.ref amap), .val (.int (0 : Int32)), .val .null, .val (.ref apr), .val (.int (0 : Int32)), .val (.int (1 : Int32)), .val (.ref b4_2), .val .null, .val (.int (16 : Int32)), .val (.int (0 : Int32)), .unset, .unset, .unset] [(.int (1 : Int32)), (.ref amap)])) rfl (by rw [hml]; rfl) (Steps.refl _) (argsL := [(.int (1 : Int32))]) (rest := []) (lenOf pd_11 rfl) rfl (by show 2 * 0 + _ ≤ _; exact Nat.le_of_eq rfl) (hb hby d15_295) (fun _ _ => ⟨rfl, e12, (by decide : 2 + 0 ≤ _), (by decide : 20 + 0 ≤ _)⟩)
  dsimp only [Pt.U, Pt.locs, Pt.cells, Pt.slots] at X13 l13 y13 z13 st13 hQ13
  subst l13 y13 z13
  obtain ⟨rfl, N13q, e13⟩ := hQ13
  have N13 := Fr.app N11 N13q
  obtain ⟨fs, hr, hrun, hended, hW, hsame⟩ := X13.leave (v := some .null) (fun h => by rw [Bd.returns] at h; cases h)
  refine ⟨_, _, pre0 _ ?_, hrun, hended, _, _, rfl, ?_, ⟨_, rfl⟩, hW, hsame.mono (by decide) (by decide)⟩
  · show Steps p.tables e below (s₁.setTop (mkF m 0 #[.val (.ref amap), .val (.int (0 : Int32)), .val .null, .val (.ref apr), .val (.int (0 : Int32)), .val (.int (1 : Int32)), .unset, .unset, .unset, .unset, .unset, .unset, .unset] [])) _
    refine XS.aloadN X0.here hx rfl (hb hby d15_0) rfl rfl ?_
    show Steps p.tables e below (s₁.setTop (mkF m 1 #[.val (.ref amap), .val (.int (0 : Int32)), .val .null, .val (.ref apr), .val (.int (0 : Int32)), .val (.int (1 : Int32)), .unset, .unset, .unset, .unset, .unset, .unset, .unset] [(.ref amap)])) _
    refine st1 _ ?_
    show Steps p.tables e below (T1.setTop (mkF m 4 #[.val (.ref amap), .val (.int (0 : Int32)), .val .null, .val (.ref apr), .val (.int (0 : Int32)), .val (.int (1 : Int32)), .unset, .unset, .unset, .unset, .unset, .unset, .unset] [.null])) _
    refine XS.dup X1.here hx rfl (hb hby d15_4) rfl rfl ?_
    show Steps p.tables e below (T1.setTop (mkF m 5 #[.val (.ref amap), .val (.int (0 : Int32)), .val .null, .val (.ref apr), .val (.int (0 : Int32)), .val (.int (1 : Int32)), .unset, .unset, .unset, .unset, .unset, .unset, .unset] [.null, .null])) _
    refine XS.astore X1.here hx rfl (hb hby d15_5) rfl rfl (l' := #[.val (.ref amap), .val (.int (0 : Int32)), .val .null, .val (.ref apr), .val (.int (0 : Int32)), .val (.int (1 : Int32)), .val .null, .unset, .unset, .unset, .unset, .unset, .unset]) rfl ?_
    show Steps p.tables e below (T1.setTop (mkF m 7 #[.val (.ref amap), .val (.int (0 : Int32)), .val .null, .val (.ref apr), .val (.int (0 : Int32)), .val (.int (1 : Int32)), .val .null, .unset, .unset, .unset, .unset, .unset, .unset] [.null])) _
    refine XS.ifnullYes X1.here hx rfl (pc0 := 7) (pc' := 19) rfl (hb hby d15_7) rfl (by decide) (by decide) ?_
    refine XS.aloadN X1.here hx rfl (hb hby d15_19) rfl rfl ?_
    show Steps p.tables e below (T1.setTop (mkF m 20 #[.val (.ref amap), .val (.int (0 : Int32)), .val .null, .val (.ref apr), .val (.int (0 : Int32)), .val (.int (1 : Int32)), .val .null, .unset, .unset, .unset, .unset, .unset, .unset] [(.ref amap)])) _
    refine st2.trans ?_
    show Steps p.tables e below (T2.setTop (mkF m 23 #[.val (.ref amap), .val (.int (0 : Int32)), .val .null, .val (.ref apr), .val (.int (0 : Int32)), .val (.int (1 : Int32)), .val .null, .unset, .unset, .unset, .unset, .unset, .unset] [(.ref b4_2)])) _
    refine XS.dup X2.here hx rfl (hb hby d15_23) rfl rfl ?_
    show Steps p.tables e below (T2.setTop (mkF m 24 #[.val (.ref amap), .val (.int (0 : Int32)), .val .null, .val (.ref apr), .val (.int (0 : Int32)), .val (.int (1 : Int32)), .val .null, .unset, .unset, .unset, .unset, .unset, .unset] [(.ref b4_2), (.ref b4_2)])) _
    refine XS.astore X2.here hx rfl (hb hby d15_24) rfl rfl (l' := #[.val (.ref amap), .val (.int (0 : Int32)), .val .null, .val (.ref apr), .val (.int (0 : Int32)), .val (.int (1 : Int32)), .val (.ref b4_2), .unset, .unset, .unset, .unset, .unset, .unset]) rfl ?_
    show Steps p.tables e below (T2.setTop (mkF m 26 #[.val (.ref amap), .val (.int (0 : Int32)), .val .null, .val (.ref apr), .val (.int (0 : Int32)), .val (.int (1 : Int32)), .val (.ref b4_2), .unset, .unset, .unset, .unset, .unset, .unset] [(.ref b4_2)])) _
    refine X2.arraylength hx Ar_3.1 (State.isArrayOf_alike hZ.alike Ar_3.2.1) (g := (mkF m 26 #[.val (.ref amap), .val (.int (0 : Int32)), .val .null, .val (.ref apr), .val (.int (0 : Int32)), .val (.int (1 : Int32)), .val (.ref b4_2), .unset, .unset, .unset, .unset, .unset, .unset] [(.ref b4_2)])) rfl rfl (hb hby d15_26) _ ?_
    rw [len_of S_3 N_3]
    refine XS.istore X2.here hx rfl (hb hby d15_27) rfl (l' := #[.val (.ref amap), .val (.int (0 : Int32)), .val .null, .val (.ref apr), .val (.int (0 : Int32)), .val (.int (1 : Int32)), .val (.ref b4_2), .unset, .val (.int (16 : Int32)), .unset, .unset, .unset, .unset]) rfl ?_
    refine XS.aload X2.here hx rfl (hb hby d15_29) rfl rfl ?_
    refine XS.iload X2.here hx rfl (hb hby d15_31) rfl ?_
    show Steps p.tables e below (T2.setTop (mkF m 33 #[.val (.ref amap), .val (.int (0 : Int32)), .val .null, .val (.ref apr), .val (.int (0 : Int32)), .val (.int (1 : Int32)), .val (.ref b4_2), .unset, .val (.int (16 : Int32)), .unset, .unset, .unset, .unset] [(.int (16 : Int32)), (.ref b4_2)])) _
    refine XS.iconst X2.here hx rfl (hb hby d15_33) ?_
    show Steps p.tables e below (T2.setTop (mkF m 34 #[.val (.ref amap), .val (.int (0 : Int32)), .val .null, .val (.ref apr), .val (.int (0 : Int32)), .val (.int (1 : Int32)), .val (.ref b4_2), .unset, .val (.int (16 : Int32)), .unset, .unset, .unset, .unset] [(.int (1 : Int32)), (.int (16 : Int32)), (.ref b4_2)])) _
    refine XS.isub X2.here hx rfl (hb hby d15_34) rfl ?_
    refine XS.iloadN X2.here hx rfl (hb hby d15_35) rfl ?_
    refine XS.iand X2.here hx rfl (hb hby d15_36) rfl ?_
    show Steps p.tables e below (T2.setTop (mkF m 37 #[.val (.ref amap), .val (.int (0 : Int32)), .val .null, .val (.ref apr), .val (.int (0 : Int32)), .val (.int (1 : Int32)), .val (.ref b4_2), .unset, .val (.int (16 : Int32)), .unset, .unset, .unset, .unset] [(.int (0 : Int32)), (.ref b4_2)])) _
    refine XS.dup X2.here hx rfl (hb hby d15_37) rfl rfl ?_
    refine XS.istore X2.here hx rfl (hb hby d15_38) rfl (l' := #[.val (.ref amap), .val (.int (0 : Int32)), .val .null, .val (.ref apr), .val (.int (0 : Int32)), .val (.int (1 : Int32)), .val (.ref b4_2), .unset, .val (.int (16 : Int32)), .val (.int (0 : Int32)), .unset, .unset, .unset]) rfl ?_
    show Steps p.tables e below (T2.setTop (mkF m 40 #[.val (.ref amap), .val (.int (0 : Int32)), .val .null, .val (.ref apr), .val (.int (0 : Int32)), .val (.int (1 : Int32)), .val (.ref b4_2), .unset, .val (.int (16 : Int32)), .val (.int (0 : Int32)), .unset, .unset, .unset] [(.int (0 : Int32)), (.ref b4_2)])) _
    refine X2.aaload hx (j := (0 : Int32)) (v := .null) Ar_4.1 (State.isArrayOf_alike hZ.alike Ar_4.2.1) rfl Ar_4.2.2 hin_4 hat_4 (g := (mkF m 40 #[.val (.ref amap), .val (.int (0 : Int32)), .val .null, .val (.ref apr), .val (.int (0 : Int32)), .val (.int (1 : Int32)), .val (.ref b4_2), .unset, .val (.int (16 : Int32)), .val (.int (0 : Int32)), .unset, .unset, .unset] [(.int (0 : Int32)), (.ref b4_2)])) rfl rfl (hb hby d15_40) _ ?_
    show Steps p.tables e below (T2.setTop (mkF m 41 #[.val (.ref amap), .val (.int (0 : Int32)), .val .null, .val (.ref apr), .val (.int (0 : Int32)), .val (.int (1 : Int32)), .val (.ref b4_2), .unset, .val (.int (16 : Int32)), .val (.int (0 : Int32)), .unset, .unset, .unset] [.null])) _
    refine XS.dup X2.here hx rfl (hb hby d15_41) rfl rfl ?_
    show Steps p.tables e below (T2.setTop (mkF m 42 #[.val (.ref amap), .val (.int (0 : Int32)), .val .null, .val (.ref apr), .val (.int (0 : Int32)), .val (.int (1 : Int32)), .val (.ref b4_2), .unset, .val (.int (16 : Int32)), .val (.int (0 : Int32)), .unset, .unset, .unset] [.null, .null])) _
    refine XS.astore X2.here hx rfl (hb hby d15_42) rfl rfl (l' := #[.val (.ref amap), .val (.int (0 : Int32)), .val .null, .val (.ref apr), .val (.int (0 : Int32)), .val (.int (1 : Int32)), .val (.ref b4_2), .val .null, .val (.int (16 : Int32)), .val (.int (0 : Int32)), .unset, .unset, .unset]) rfl ?_
    show Steps p.tables e below (T2.setTop (mkF m 44 #[.val (.ref amap), .val (.int (0 : Int32)), .val .null, .val (.ref apr), .val (.int (0 : Int32)), .val (.int (1 : Int32)), .val (.ref b4_2), .val .null, .val (.int (16 : Int32)), .val (.int (0 : Int32)), .unset, .unset, .unset] [.null])) _
    refine XS.ifnonnullNo X2.here hx rfl (hb hby d15_44) rfl ?_
    refine XS.aload X2.here hx rfl (hb hby d15_47) rfl rfl ?_
    refine XS.iload X2.here hx rfl (hb hby d15_49) rfl ?_
    refine XS.aloadN X2.here hx rfl (hb hby d15_51) rfl rfl ?_
    show Steps p.tables e below (T2.setTop (mkF m 52 #[.val (.ref amap), .val (.int (0 : Int32)), .val .null, .val (.ref apr), .val (.int (0 : Int32)), .val (.int (1 : Int32)), .val (.ref b4_2), .val .null, .val (.int (16 : Int32)), .val (.int (0 : Int32)), .unset, .unset, .unset] [(.ref amap), (.int (0 : Int32)), (.ref b4_2)])) _
    refine XS.iloadN X2.here hx rfl (hb hby d15_52) rfl ?_
    refine XS.aloadN X2.here hx rfl (hb hby d15_53) rfl rfl ?_
    refine XS.aloadN X2.here hx rfl (hb hby d15_54) rfl rfl ?_
    show Steps p.tables e below (T2.setTop (mkF m 55 #[.val (.ref amap), .val (.int (0 : Int32)), .val .null, .val (.ref apr), .val (.int (0 : Int32)), .val (.int (1 : Int32)), .val (.ref b4_2), .val .null, .val (.int (16 : Int32)), .val (.int (0 : Int32)), .unset, .unset, .unset] [(.ref apr), .null, (.int (0 : Int32)), (.ref amap), (.int (0 : Int32)), (.ref b4_2)])) _
    refine XS.aconstNull X2.here hx rfl (hb hby d15_55) ?_
    show Steps p.tables e below (T2.setTop (mkF m 56 #[.val (.ref amap), .val (.int (0 : Int32)), .val .null, .val (.ref apr), .val (.int (0 : Int32)), .val (.int (1 : Int32)), .val (.ref b4_2), .val .null, .val (.int (16 : Int32)), .val (.int (0 : Int32)), .unset, .unset, .unset] [.null, (.ref apr), .null, (.int (0 : Int32)), (.ref amap), (.int (0 : Int32)), (.ref b4_2)])) _
    refine st5.trans ?_
    show Steps p.tables e below (T5.setTop (mkF m 59 #[.val (.ref amap), .val (.int (0 : Int32)), .val .null, .val (.ref apr), .val (.int (0 : Int32)), .val (.int (1 : Int32)), .val (.ref b4_2), .val .null, .val (.int (16 : Int32)), .val (.int (0 : Int32)), .unset, .unset, .unset] [(.ref b1_5), (.int (0 : Int32)), (.ref b4_2)])) _
    refine st7 _ ?_
    refine XS.goto X7.here hx rfl (pc0 := 60) (pc' := 259) rfl (hb hby d15_60) (by decide) (by decide) ?_
    refine XS.aloadN X7.here hx rfl (hb hby d15_259) rfl rfl ?_
    show Steps p.tables e below (T7.setTop (mkF m 260 #[.val (.ref amap), .val (.int (0 : Int32)), .val .null, .val (.ref apr), .val (.int (0 : Int32)), .val (.int (1 : Int32)), .val (.ref b4_2), .val .null, .val (.int (16 : Int32)), .val (.int (0 : Int32)), .unset, .unset, .unset] [(.ref amap)])) _
    refine XS.dup X7.here hx rfl (hb hby d15_260) rfl rfl ?_
    show Steps p.tables e below (T7.setTop (mkF m 261 #[.val (.ref amap), .val (.int (0 : Int32)), .val .null, .val (.ref apr), .val (.int (0 : Int32)), .val (.int (1 : Int32)), .val (.ref b4_2), .val .null, .val (.int (16 : Int32)), .val (.int (0 : Int32)), .unset, .unset, .unset] [(.ref amap), (.ref amap)])) _
    refine st8 _ ?_
    refine XS.iconst X8.here hx rfl (hb hby d15_264) ?_
    refine XS.iadd X8.here hx rfl (hb hby d15_265) rfl ?_
    show Steps p.tables e below (T8.setTop (mkF m 266 #[.val (.ref amap), .val (.int (0 : Int32)), .val .null, .val (.ref apr), .val (.int (0 : Int32)), .val (.int (1 : Int32)), .val (.ref b4_2), .val .null, .val (.int (16 : Int32)), .val (.int (0 : Int32)), .unset, .unset, .unset] [(.int (1 : Int32)), (.ref amap)])) _
    refine st9 _ ?_
    refine XS.aloadN X9.here hx rfl (hb hby d15_269) rfl rfl ?_
    show Steps p.tables e below (T9.setTop (mkF m 270 #[.val (.ref amap), .val (.int (0 : Int32)), .val .null, .val (.ref apr), .val (.int (0 : Int32)), .val (.int (1 : Int32)), .val (.ref b4_2), .val .null, .val (.int (16 : Int32)), .val (.int (0 : Int32)), .unset, .unset, .unset] [(.ref amap)])) _
    refine XS.dup X9.here hx rfl (hb hby d15_270) rfl rfl ?_
    show Steps p.tables e below (T9.setTop (mkF m 271 #[.val (.ref amap), .val (.int (0 : Int32)), .val .null, .val (.ref apr), .val (.int (0 : Int32)), .val (.int (1 : Int32)), .val (.ref b4_2), .val .null, .val (.int (16 : Int32)), .val (.int (0 : Int32)), .unset, .unset, .unset] [(.ref amap), (.ref amap)])) _
    refine st10 _ ?_
    refine XS.iconst X10.here hx rfl (hb hby d15_274) ?_
    refine XS.iadd X10.here hx rfl (hb hby d15_275) rfl ?_
    show Steps p.tables e below (T10.setTop (mkF m 276 #[.val (.ref amap), .val (.int (0 : Int32)), .val .null, .val (.ref apr), .val (.int (0 : Int32)), .val (.int (1 : Int32)), .val (.ref b4_2), .val .null, .val (.int (16 : Int32)), .val (.int (0 : Int32)), .unset, .unset, .unset] [(.int (1 : Int32)), (.ref amap)])) _
    refine XS.dupX1 X10.here hx rfl (hb hby d15_276) rfl rfl rfl ?_
    show Steps p.tables e below (T10.setTop (mkF m 277 #[.val (.ref amap), .val (.int (0 : Int32)), .val .null, .val (.ref apr), .val (.int (0 : Int32)), .val (.int (1 : Int32)), .val (.ref b4_2), .val .null, .val (.int (16 : Int32)), .val (.int (0 : Int32)), .unset, .unset, .unset] [(.int (1 : Int32)), (.ref amap), (.int (1 : Int32))])) _
    refine st11 _ ?_
    refine XS.aloadN X11.here hx rfl (hb hby d15_280) rfl rfl ?_
    show Steps p.tables e below (T11.setTop (mkF m 281 #[.val (.ref amap), .val (.int (0 : Int32)), .val .null, .val (.ref apr), .val (.int (0 : Int32)), .val (.int (1 : Int32)), .val (.ref b4_2), .val .null, .val (.int (16 : Int32)), .val (.int (0 : Int32)), .unset, .unset, .unset] [(.ref amap), (.int (1 : Int32))])) _
    refine st12 _ ?_
    show Steps p.tables e below (T12.setTop (mkF m 284 #[.val (.ref amap), .val (.int (0 : Int32)), .val .null, .val (.ref apr), .val (.int (0 : Int32)), .val (.int (1 : Int32)), .val (.ref b4_2), .val .null, .val (.int (16 : Int32)), .val (.int (0 : Int32)), .unset, .unset, .unset] [(.int (12 : Int32)), (.int (1 : Int32))])) _
    refine XS.icmpYes X12.here hx rfl (pc0 := 284) (pc' := 292) rfl (hb hby d15_284) rfl (flt (by decide : ¬ ((12 : Int32) < (1 : Int32)))).2.2.2 (by decide) (by decide) ?_
    refine XS.aloadN X12.here hx rfl (hb hby d15_292) rfl rfl ?_
    refine XS.iload X12.here hx rfl (hb hby d15_293) rfl ?_
    show Steps p.tables e below (T12.setTop (mkF m 295 #[.val (.ref amap), .val (.int (0 : Int32)), .val .null, .val (.ref apr), .val (.int (0 : Int32)), .val (.int (1 : Int32)), .val (.ref b4_2), .val .null, .val (.int (16 : Int32)), .val (.int (0 : Int32)), .unset, .unset, .unset] [(.int (1 : Int32)), (.ref amap)])) _
    refine st13.trans ?_
    show Steps p.tables e below (T13.setTop (mkF m 298 #[.val (.ref amap), .val (.int (0 : Int32)), .val .null, .val (.ref apr), .val (.int (0 : Int32)), .val (.int (1 : Int32)), .val (.ref b4_2), .val .null, .val (.int (16 : Int32)), .val (.int (0 : Int32)), .unset, .unset, .unset] [])) _
    refine XS.aconstNull X13.here hx rfl (hb hby d15_298) ?_
    show Steps p.tables e below (T13.setTop (mkF m 299 #[.val (.ref amap), .val (.int (0 : Int32)), .val .null, .val (.ref apr), .val (.int (0 : Int32)), .val (.int (1 : Int32)), .val (.ref b4_2), .val .null, .val (.int (16 : Int32)), .val (.int (0 : Int32)), .unset, .unset, .unset] [.null])) _
    jvm_step X13.here [X13.here.top, hx, (hb hby d15_299), X13.method', Bd.returns, Value.isRef, FieldType.isReference]
    first | (intro acts; rw [hr _ acts rfl rfl rfl]) | rw [hr _ _ rfl rfl rfl]
    exact Steps.refl _
  · show Q15a Z amap apr h0 n0 _ T13.heap _
    rw [e13]
    exact ⟨b4_2, k4_2, b1_5, rfl, N13, K11, c11_E_amap, c11_F_amap_table, c11_F_amap_threshold, c11_F_amap_modCount, c11_F_amap_size, c11_F_amap_loadFactor, c11_V_b4_2, t2_7, t2_8, sz_b4_2, c11_E_b1_5, c11_F_b1_5_hash, c11_F_b1_5_key, c11_F_b1_5_value, c11_F_b1_5_next, t5_5, sz_b1_5, nf5_b4_2_b1_5⟩
def Q15b (Z : State) (amap : Addr) (apr : Addr) (atb : Addr) (and0 : Addr) (kt : ClassId) (h0 : Heap) (n0 : Nat) (v : Option Value) (h : Heap) (L : List Loc) : Prop := v = some (.ref apr) ∧ Fr n0 L ∧ Keep h0 h [and0] ∧ Exa Z h and0 "java/util/HashMap$Node" ∧ Fld Z h and0 "java/util/HashMap$Node" "hash" "I" (.int (0 : Int32)) ∧ Fld Z h and0 "java/util/HashMap$Node" "key" "Ljava/lang/Object;" .null ∧ Fld Z h and0 "java/util/HashMap$Node" "value" "Ljava/lang/Object;" (.ref apr) ∧ Fld Z h and0 "java/util/HashMap$Node" "next" "Ljava/util/HashMap$Node;" .null
set_option maxRecDepth 65536 in
set_option maxHeartbeats 40000000 in
theorem rm15b (l : Launch) (Z : State) (a0 : Array Value) (hw : ∀ d ∈ tables_1, d.before a0 Z = true) (ws : List Jvm.Cond) (amap : Addr) (apr : Addr) (atb : Addr) (and0 : Addr) (kt : ClassId) (h0 : Heap) (n0 : Nat) (Z0 : n0 ≤ h0.size) (E_amap : Exa Z h0 amap "java/util/HashMap") (F_amap_table : Fld Z h0 amap "java/util/HashMap" "table" "[Ljava/util/HashMap$Node;" (.ref atb)) (F_amap_threshold : Fld Z h0 amap "java/util/HashMap" "threshold" "I" (.int (12 : Int32))) (F_amap_modCount : Fld Z h0 amap "java/util/HashMap" "modCount" "I" (.int (1 : Int32))) (F_amap_size : Fld Z h0 amap "java/util/HashMap" "size" "I" (.int (1 : Int32))) (F_amap_loadFactor : Fld Z h0 amap "java/util/HashMap" "loadFactor" "F" (.float (1061158912 : UInt32))) (E_and0 : Exa Z h0 and0 "java/util/HashMap$Node") (F_and0_hash : Fld Z h0 and0 "java/util/HashMap$Node" "hash" "I" (.int (0 : Int32))) (F_and0_key : Fld Z h0 and0 "java/util/HashMap$Node" "key" "Ljava/lang/Object;" .null) (F_and0_value : Fld Z h0 and0 "java/util/HashMap$Node" "value" "Ljava/lang/Object;" (.ref apr)) (F_and0_next : Fld Z h0 and0 "java/util/HashMap$Node" "next" "Ljava/util/HashMap$Node;" .null) (V_atb : Arv Z h0 atb kt (.object "java/util/HashMap$Node") (16 : Int32) [(.ref and0), .null, .null, .null, .null, .null, .null, .null, .null, .null, .null, .null, .null, .null, .null, .null] .null) (Ov_atb : Ovr Z kt "java/util/HashMap$Node") (ne_amap_and0 : amap ≠ and0) (ne_amap_atb : amap ≠ atb) (ne_and0_atb : and0 ≠ atb) (g_and0 : n0 ≤ and0) :
    MetFree l (⟨"java/util/HashMap", "putVal", "(ILjava/lang/Object;Ljava/lang/Object;ZZ)Ljava/lang/Object;"⟩ : MethodName) (head1 (Jvm.Cond.code (⟨"java/util/HashMap", "putVal", "(ILjava/lang/Object;Ljava/lang/Object;ZZ)Ljava/lang/Object;"⟩ : MethodName) jdk_69_method_16_code 13 (some (.object "java/lang/Object")) :: ws) ({ frames := 1, cells := 0, slots := 0, locals := 13 } : Room)) (fun a U => a = #[(.ref amap), (.int (0 : Int32)), .null, (.ref apr), (.int (0 : Int32)), (.int (1 : Int32))] ∧ Z.Warmed39 U.vm ∧ U.heap = h0) (fun _ _ _ _ _ => True) (fun _ U o U' => ∃ v L, o = .returned v ∧ Q15b Z amap apr atb and0 kt h0 n0 v U'.heap L ∧ FrameEnd U o U' L ({ frames := 1, cells := 0, slots := 0, locals := 13 } : Room).cells ({ frames := 1, cells := 0, slots := 0, locals := 13 } : Room).slots) := by
  refine MetFree.of_bodySF (plainFor_of_name pn_15) hisR ?_
  intro p e s m args below meth c s₁ Bd hml0 hP hK
  obtain ⟨rfl, hZ, hh⟩ := hP
  have hx := Bd.exec
  have hby := Bd.bytes
  have hml : c.maxLocals = 13 := hml0
  have hown : s.vm.findClass "java/util/HashMap" = some m.cls := findClass_of_methodNamed Bd.named
  have X0 : Stand p l e ({ frames := 1, cells := 0, slots := 0, locals := 13 } : Room) s m #[(.ref amap), (.int (0 : Int32)), .null, (.ref apr), (.int (0 : Int32)), (.int (1 : Int32))] below meth c s₁ [] 0 0 := Stand.of_body Bd
  have e0 : s₁.heap = h0 := by rw [← hh, Bd.state]; rfl
  have N0 := Fr.nil n0
  have pre0 : ∀ t, Steps p.tables e below (s₁.setTop (mkF m 0 #[.val (.ref amap), .val (.int (0 : Int32)), .val .null, .val (.ref apr), .val (.int (0 : Int32)), .val (.int (1 : Int32)), .unset, .unset, .unset, .unset, .unset, .unset, .unset] [])) t → Steps p.tables e below (s₁.setTop (entryFrame m #[(.ref amap), (.int (0 : Int32)), .null, (.ref apr), (.int (0 : Int32)), (.int (1 : Int32))] 13)) t := fun t k => castTop (ef_15n m amap (0 : Int32) apr (0 : Int32) (1 : Int32)) k
  have K0 : Keep h0 h0 [and0] := Keep.refl h0 _
  obtain ⟨T1, X1, e1, st1⟩ := getF X0 hx hZ hown (host := "") (Or.inl (hw _ (List.mem_of_getElem? (i := 119) rfl))) Via.refl e0 F_amap_table (g := (mkF m 1 #[.val (.ref amap), .val (.int (0 : Int32)), .val .null, .val (.ref apr), .val (.int (0 : Int32)), .val (.int (1 : Int32)), .unset, .unset, .unset, .unset, .unset, .unset, .unset] [(.ref amap)])) rfl rfl (hb hby d15_1)
  obtain ⟨cl_2, Ar_2, -, S_2, N_2, -, -⟩ := id V_atb
  obtain ⟨cl_3, Ar_3, -, S_3, N_3, H_3, -⟩ := id V_atb
  have hin_3 : ¬ ((0 : Int32) < 0 ∨ cl_3.slots.size ≤ ((0 : Int32)).toNatClampNeg) := inb_of S_3 ⟨by decide, by decide⟩
  have hat_3 : cl_3.slots[((0 : Int32)).toNatClampNeg]? = some (.ref and0) := Has.at H_3 hin_3 rfl
  obtain ⟨T4, X4, e4, st4⟩ := getF X1 hx hZ hown (host := "") (Or.inl (hw _ (List.mem_of_getElem? (i := 187) rfl))) Via.refl e1 F_and0_hash (g := (mkF m 65 #[.val (.ref amap), .val (.int (0 : Int32)), .val .null, .val (.ref apr), .val (.int (0 : Int32)), .val (.int (1 : Int32)), .val (.ref atb), .val (.ref and0), .val (.int (16 : Int32)), .val (.int (0 : Int32)), .unset, .unset, .unset] [(.ref and0)])) rfl rfl (hb hby d15_65)
  obtain ⟨T5, X5, e5, st5⟩ := getF X4 hx hZ hown (host := "") (Or.inl (hw _ (List.mem_of_getElem? (i := 188) rfl))) Via.refl e4 F_and0_key (g := (mkF m 74 #[.val (.ref amap), .val (.int (0 : Int32)), .val .null, .val (.ref apr), .val (.int (0 : Int32)), .val (.int (1 : Int32)), .val (.ref atb), .val (.ref and0), .val (.int (16 : Int32)), .val (.int (0 : Int32)), .unset, .unset, .unset] [(.ref and0)])) rfl rfl (hb hby d15_74)
  obtain ⟨T6, X6, e6, st6⟩ := getF X5 hx hZ hown (host := "") (Or.inl (hw _ (List.mem_of_getElem? (i := 189) rfl))) Via.refl e5 F_and0_value (g := (mkF m 229 #[.val (.ref amap), .val (.int (0 : Int32)), .val .null, .val (.ref apr), .val (.int (0 : Int32)), .val (.int (1 : Int32)), .val (.ref atb), .val (.ref and0), .val (.int (16 : Int32)), .val (.int (0 : Int32)), .val (.ref and0), .val .null, .unset] [(.ref and0)])) rfl rfl (hb hby d15_229)
  obtain ⟨T7, h7, X7, e7, W7, st7⟩ := putF X6 hx hZ hown (host := "") (Or.inl (hw _ (List.mem_of_getElem? (i := 189) rfl))) Via.refl e6 F_and0_value E_and0 (Or.inl (hw _ (List.mem_of_getElem? (i := 147) rfl))) (hw _ (List.mem_of_getElem? (i := 135) rfl)) (ty := (.object "java/lang/Object")) (by decide) rfl rfl (g := (mkF m 247 #[.val (.ref amap), .val (.int (0 : Int32)), .val .null, .val (.ref apr), .val (.int (0 : Int32)), .val (.int (1 : Int32)), .val (.ref atb), .val (.ref and0), .val (.int (16 : Int32)), .val (.int (0 : Int32)), .val (.ref and0), .val .null, .val (.ref apr)] [(.ref apr), (.ref and0)])) rfl rfl (hb hby d15_247)
  have c7_E_amap := E_amap.wr W7
  have c7_E_and0 := E_and0.wr W7
  have c7_F_and0_hash := F_and0_hash.other W7 (Or.inr (slot_ne (Or.inr (hw _ (List.mem_of_getElem? (i := 143) rfl))) (Or.inl (hw _ (List.mem_of_getElem? (i := 147) rfl))) (by decide) (t := .int) (t' := (.object "java/lang/Object")) (by decide) (by decide)))
  have c7_F_and0_key := F_and0_key.other W7 (Or.inr (slot_ne (Or.inr (hw _ (List.mem_of_getElem? (i := 145) rfl))) (Or.inl (hw _ (List.mem_of_getElem? (i := 147) rfl))) (by decide) (t := (.object "java/lang/Object")) (t' := (.object "java/lang/Object")) (by decide) (by decide)))
  have c7_F_and0_value := F_and0_value.same W7
  have c7_F_and0_next := F_and0_next.other W7 (Or.inr (slot_ne (Or.inl (hw _ (List.mem_of_getElem? (i := 149) rfl))) (Or.inl (hw _ (List.mem_of_getElem? (i := 147) rfl))) (by decide) (t := (.object "java/util/HashMap$Node")) (t' := (.object "java/lang/Object")) (by decide) (by decide)))
  have N7 := Fr.snoc X7 N0 g_and0
  have Z7 : n0 ≤ h7.size := Nat.le_trans Z0 (Keep.of_wr W7).1
  have K7 : Keep h0 h7 [and0] := K0.wr W7 (Or.inl (List.mem_of_getElem? (i := 0) rfl))
  obtain ⟨cq8, kq8, q8a, q8b, q8c⟩ := isOf hZ e7 c7_E_amap
  obtain ⟨_, _, ⟨T8, L8, k8, n8⟩, -, X8, ⟨Lc8, hQ8, l8, y8, z8⟩, st8⟩ := X7.virtualBack hx (y := (⟨"java/util/HashMap", "afterNodeAccess", "(Ljava/util/HashMap$Node;)V"⟩ : MethodName)) (z := (⟨"java/util/HashMap", "afterNodeAccess", "(Ljava/util/HashMap$Node;)V"⟩ : MethodName)) hown (mvT hZ (hw _ (List.mem_of_getElem? (i := 190) rfl))) (mvT hZ (hw _ (List.mem_of_getElem? (i := 191) rfl))) (notFace_of_selects (args := #[]) (mvT hZ (hw _ (List.mem_of_getElem? (i := 193) rfl)))) (mvT hZ (hw _ (List.mem_of_getElem? (i := 193) rfl))) (mvT hZ (hw _ (List.mem_of_getElem? (i := 192) rfl))) (by decide) (backOf (W := 0) (rm25 l Z a0 hw [] amap and0 h7 n0 Z7) hZ (hw _ (List.mem_of_getElem? (i := 194) rfl)) (hw _ (List.mem_of_getElem? (i := 30) rfl)) (by decide) (by decide)) q8a q8c (g := (mkF m 253 #[.val (.ref amap), .val (.int (0 : Int32)), .val .null, .val (.ref apr), .val (.int (0 : Int32)), .val (.int (1 : Int32)), .val (.ref atb), .val (.ref and0), .val (.int (16 : Int32)), .val (.int (0 : Int32)), .val (.ref and0), .val .null, .val (.ref apr)] [(.ref and0), (.ref amap)])) rfl (by rw [hml]; rfl) (Steps.refl _) (argsL := [(.ref and0)]) (rest := []) (lenOf pd_18 rfl) rfl (by show 2 * 0 + _ ≤ _; exact Nat.le_of_eq rfl) (hb hby d15_253) (fun _ _ => ⟨rfl, e7, (by decide : 0 + 0 ≤ _), (by decide : 0 + 0 ≤ _)⟩)
  dsimp only [Pt.U, Pt.locs, Pt.cells, Pt.slots] at X8 l8 y8 z8 st8 hQ8
  subst l8 y8 z8
  obtain ⟨rfl, N8q, e8⟩ := hQ8
  have N8 := Fr.app N7 N8q
  obtain ⟨fs, hr, hrun, hended, hW, hsame⟩ := X8.leave (v := some (.ref apr)) (fun h => by rw [Bd.returns] at h; cases h)
  refine ⟨_, _, pre0 _ ?_, hrun, hended, _, _, rfl, ?_, ⟨_, rfl⟩, hW, hsame.mono (by decide) (by decide)⟩
  · show Steps p.tables e below (s₁.setTop (mkF m 0 #[.val (.ref amap), .val (.int (0 : Int32)), .val .null, .val (.ref apr), .val (.int (0 : Int32)), .val (.int (1 : Int32)), .unset, .unset, .unset, .unset, .unset, .unset, .unset] [])) _
    refine XS.aloadN X0.here hx rfl (hb hby d15_0) rfl rfl ?_
    show Steps p.tables e below (s₁.setTop (mkF m 1 #[.val (.ref amap), .val (.int (0 : Int32)), .val .null, .val (.ref apr), .val (.int (0 : Int32)), .val (.int (1 : Int32)), .unset, .unset, .unset, .unset, .unset, .unset, .unset] [(.ref amap)])) _
    refine st1 _ ?_
    show Steps p.tables e below (T1.setTop (mkF m 4 #[.val (.ref amap), .val (.int (0 : Int32)), .val .null, .val (.ref apr), .val (.int (0 : Int32)), .val (.int (1 : Int32)), .unset, .unset, .unset, .unset, .unset, .unset, .unset] [(.ref atb)])) _
    refine XS.dup X1.here hx rfl (hb hby d15_4) rfl rfl ?_
    show Steps p.tables e below (T1.setTop (mkF m 5 #[.val (.ref amap), .val (.int (0 : Int32)), .val .null, .val (.ref apr), .val (.int (0 : Int32)), .val (.int (1 : Int32)), .unset, .unset, .unset, .unset, .unset, .unset, .unset] [(.ref atb), (.ref atb)])) _
    refine XS.astore X1.here hx rfl (hb hby d15_5) rfl rfl (l' := #[.val (.ref amap), .val (.int (0 : Int32)), .val .null, .val (.ref apr), .val (.int (0 : Int32)), .val (.int (1 : Int32)), .val (.ref atb), .unset, .unset, .unset, .unset, .unset, .unset]) rfl ?_
    show Steps p.tables e below (T1.setTop (mkF m 7 #[.val (.ref amap), .val (.int (0 : Int32)), .val .null, .val (.ref apr), .val (.int (0 : Int32)), .val (.int (1 : Int32)), .val (.ref atb), .unset, .unset, .unset, .unset, .unset, .unset] [(.ref atb)])) _
    refine XS.ifnullNo X1.here hx rfl (hb hby d15_7) rfl ?_
    refine XS.aload X1.here hx rfl (hb hby d15_10) rfl rfl ?_
    show Steps p.tables e below (T1.setTop (mkF m 12 #[.val (.ref amap), .val (.int (0 : Int32)), .val .null, .val (.ref apr), .val (.int (0 : Int32)), .val (.int (1 : Int32)), .val (.ref atb), .unset, .unset, .unset, .unset, .unset, .unset] [(.ref atb)])) _
    refine X1.arraylength hx (by rw [e1]; exact Ar_2.1) (State.isArrayOf_alike hZ.alike Ar_2.2.1) (g := (mkF m 12 #[.val (.ref amap), .val (.int (0 : Int32)), .val .null, .val (.ref apr), .val (.int (0 : Int32)), .val (.int (1 : Int32)), .val (.ref atb), .unset, .unset, .unset, .unset, .unset, .unset] [(.ref atb)])) rfl rfl (hb hby d15_12) _ ?_
    rw [len_of S_2 N_2]
    show Steps p.tables e below (T1.setTop (mkF m 13 #[.val (.ref amap), .val (.int (0 : Int32)), .val .null, .val (.ref apr), .val (.int (0 : Int32)), .val (.int (1 : Int32)), .val (.ref atb), .unset, .unset, .unset, .unset, .unset, .unset] [(.int (16 : Int32))])) _
    refine XS.dup X1.here hx rfl (hb hby d15_13) rfl rfl ?_
    refine XS.istore X1.here hx rfl (hb hby d15_14) rfl (l' := #[.val (.ref amap), .val (.int (0 : Int32)), .val .null, .val (.ref apr), .val (.int (0 : Int32)), .val (.int (1 : Int32)), .val (.ref atb), .unset, .val (.int (16 : Int32)), .unset, .unset, .unset, .unset]) rfl ?_
    show Steps p.tables e below (T1.setTop (mkF m 16 #[.val (.ref amap), .val (.int (0 : Int32)), .val .null, .val (.ref apr), .val (.int (0 : Int32)), .val (.int (1 : Int32)), .val (.ref atb), .unset, .val (.int (16 : Int32)), .unset, .unset, .unset, .unset] [(.int (16 : Int32))])) _
    refine XS.ifYes X1.here hx rfl (pc0 := 16) (pc' := 29) rfl (hb hby d15_16) rfl ((if0 _ _).trans (feq (by decide : ¬ ((16 : Int32) = (0 : Int32)))).2) (by decide) (by decide) ?_
    refine XS.aload X1.here hx rfl (hb hby d15_29) rfl rfl ?_
    refine XS.iload X1.here hx rfl (hb hby d15_31) rfl ?_
    refine XS.iconst X1.here hx rfl (hb hby d15_33) ?_
    show Steps p.tables e below (T1.setTop (mkF m 34 #[.val (.ref amap), .val (.int (0 : Int32)), .val .null, .val (.ref apr), .val (.int (0 : Int32)), .val (.int (1 : Int32)), .val (.ref atb), .unset, .val (.int (16 : Int32)), .unset, .unset, .unset, .unset] [(.int (1 : Int32)), (.int (16 : Int32)), (.ref atb)])) _
    refine XS.isub X1.here hx rfl (hb hby d15_34) rfl ?_
    refine XS.iloadN X1.here hx rfl (hb hby d15_35) rfl ?_
    refine XS.iand X1.here hx rfl (hb hby d15_36) rfl ?_
    show Steps p.tables e below (T1.setTop (mkF m 37 #[.val (.ref amap), .val (.int (0 : Int32)), .val .null, .val (.ref apr), .val (.int (0 : Int32)), .val (.int (1 : Int32)), .val (.ref atb), .unset, .val (.int (16 : Int32)), .unset, .unset, .unset, .unset] [(.int (0 : Int32)), (.ref atb)])) _
    refine XS.dup X1.here hx rfl (hb hby d15_37) rfl rfl ?_
    refine XS.istore X1.here hx rfl (hb hby d15_38) rfl (l' := #[.val (.ref amap), .val (.int (0 : Int32)), .val .null, .val (.ref apr), .val (.int (0 : Int32)), .val (.int (1 : Int32)), .val (.ref atb), .unset, .val (.int (16 : Int32)), .val (.int (0 : Int32)), .unset, .unset, .unset]) rfl ?_
    show Steps p.tables e below (T1.setTop (mkF m 40 #[.val (.ref amap), .val (.int (0 : Int32)), .val .null, .val (.ref apr), .val (.int (0 : Int32)), .val (.int (1 : Int32)), .val (.ref atb), .unset, .val (.int (16 : Int32)), .val (.int (0 : Int32)), .unset, .unset, .unset] [(.int (0 : Int32)), (.ref atb)])) _
    refine X1.aaload hx (j := (0 : Int32)) (v := (.ref and0)) (by rw [e1]; exact Ar_3.1) (State.isArrayOf_alike hZ.alike Ar_3.2.1) rfl Ar_3.2.2 hin_3 hat_3 (g := (mkF m 40 #[.val (.ref amap), .val (.int (0 : Int32)), .val .null, .val (.ref apr), .val (.int (0 : Int32)), .val (.int (1 : Int32)), .val (.ref atb), .unset, .val (.int (16 : Int32)), .val (.int (0 : Int32)), .unset, .unset, .unset] [(.int (0 : Int32)), (.ref atb)])) rfl rfl (hb hby d15_40) _ ?_
    show Steps p.tables e below (T1.setTop (mkF m 41 #[.val (.ref amap), .val (.int (0 : Int32)), .val .null, .val (.ref apr), .val (.int (0 : Int32)), .val (.int (1 : Int32)), .val (.ref atb), .unset, .val (.int (16 : Int32)), .val (.int (0 : Int32)), .unset, .unset, .unset] [(.ref and0)])) _
    refine XS.dup X1.here hx rfl (hb hby d15_41) rfl rfl ?_
    show Steps p.tables e below (T1.setTop (mkF m 42 #[.val (.ref amap), .val (.int (0 : Int32)), .val .null, .val (.ref apr), .val (.int (0 : Int32)), .val (.int (1 : Int32)), .val (.ref atb), .unset, .val (.int (16 : Int32)), .val (.int (0 : Int32)), .unset, .unset, .unset] [(.ref and0), (.ref and0)])) _
    refine XS.astore X1.here hx rfl (hb hby d15_42) rfl rfl (l' := #[.val (.ref amap), .val (.int (0 : Int32)), .val .null, .val (.ref apr), .val (.int (0 : Int32)), .val (.int (1 : Int32)), .val (.ref atb), .val (.ref and0), .val (.int (16 : Int32)), .val (.int (0 : Int32)), .unset, .unset, .unset]) rfl ?_
    show Steps p.tables e below (T1.setTop (mkF m 44 #[.val (.ref amap), .val (.int (0 : Int32)), .val .null, .val (.ref apr), .val (.int (0 : Int32)), .val (.int (1 : Int32)), .val (.ref atb), .val (.ref and0), .val (.int (16 : Int32)), .val (.int (0 : Int32)), .unset, .unset, .unset] [(.ref and0)])) _
    refine XS.ifnonnullYes X1.here hx rfl (pc0 := 44) (pc' := 63) rfl (hb hby d15_44) rfl (by decide) (by decide) ?_
    refine XS.aload X1.here hx rfl (hb hby d15_63) rfl rfl ?_
    show Steps p.tables e below (T1.setTop (mkF m 65 #[.val (.ref amap), .val (.int (0 : Int32)), .val .null, .val (.ref apr), .val (.int (0 : Int32)), .val (.int (1 : Int32)), .val (.ref atb), .val (.ref and0), .val (.int (16 : Int32)), .val (.int (0 : Int32)), .unset, .unset, .unset] [(.ref and0)])) _
    refine st4 _ ?_
    refine XS.iloadN X4.here hx rfl (hb hby d15_68) rfl ?_
    show Steps p.tables e below (T4.setTop (mkF m 69 #[.val (.ref amap), .val (.int (0 : Int32)), .val .null, .val (.ref apr), .val (.int (0 : Int32)), .val (.int (1 : Int32)), .val (.ref atb), .val (.ref and0), .val (.int (16 : Int32)), .val (.int (0 : Int32)), .unset, .unset, .unset] [(.int (0 : Int32)), (.int (0 : Int32))])) _
    refine XS.icmpNo X4.here hx rfl (hb hby d15_69) rfl (teq (by decide : (0 : Int32) = (0 : Int32))).2 ?_
    refine XS.aload X4.here hx rfl (hb hby d15_72) rfl rfl ?_
    show Steps p.tables e below (T4.setTop (mkF m 74 #[.val (.ref amap), .val (.int (0 : Int32)), .val .null, .val (.ref apr), .val (.int (0 : Int32)), .val (.int (1 : Int32)), .val (.ref atb), .val (.ref and0), .val (.int (16 : Int32)), .val (.int (0 : Int32)), .unset, .unset, .unset] [(.ref and0)])) _
    refine st5 _ ?_
    show Steps p.tables e below (T5.setTop (mkF m 77 #[.val (.ref amap), .val (.int (0 : Int32)), .val .null, .val (.ref apr), .val (.int (0 : Int32)), .val (.int (1 : Int32)), .val (.ref atb), .val (.ref and0), .val (.int (16 : Int32)), .val (.int (0 : Int32)), .unset, .unset, .unset] [.null])) _
    refine XS.dup X5.here hx rfl (hb hby d15_77) rfl rfl ?_
    show Steps p.tables e below (T5.setTop (mkF m 78 #[.val (.ref amap), .val (.int (0 : Int32)), .val .null, .val (.ref apr), .val (.int (0 : Int32)), .val (.int (1 : Int32)), .val (.ref atb), .val (.ref and0), .val (.int (16 : Int32)), .val (.int (0 : Int32)), .unset, .unset, .unset] [.null, .null])) _
    refine XS.astore X5.here hx rfl (hb hby d15_78) rfl rfl (l' := #[.val (.ref amap), .val (.int (0 : Int32)), .val .null, .val (.ref apr), .val (.int (0 : Int32)), .val (.int (1 : Int32)), .val (.ref atb), .val (.ref and0), .val (.int (16 : Int32)), .val (.int (0 : Int32)), .unset, .val .null, .unset]) rfl ?_
    refine XS.aloadN X5.here hx rfl (hb hby d15_80) rfl rfl ?_
    show Steps p.tables e below (T5.setTop (mkF m 81 #[.val (.ref amap), .val (.int (0 : Int32)), .val .null, .val (.ref apr), .val (.int (0 : Int32)), .val (.int (1 : Int32)), .val (.ref atb), .val (.ref and0), .val (.int (16 : Int32)), .val (.int (0 : Int32)), .unset, .val .null, .unset] [.null, .null])) _
    refine Jvm.RoadKit.acmp (g := (mkF m 81 #[.val (.ref amap), .val (.int (0 : Int32)), .val .null, .val (.ref apr), .val (.int (0 : Int32)), .val (.int (1 : Int32)), .val (.ref atb), .val (.ref and0), .val (.int (16 : Int32)), .val (.int (0 : Int32)), .unset, .val .null, .unset] [.null, .null])) X5 hx rfl rfl rfl (pc0 := 81) (pc' := 97) (same := true) rfl (hb hby d15_81) rfl (decide_eq_true rfl) (by decide) (by decide) ?_
    refine XS.aload X5.here hx rfl (hb hby d15_97) rfl rfl ?_
    show Steps p.tables e below (T5.setTop (mkF m 99 #[.val (.ref amap), .val (.int (0 : Int32)), .val .null, .val (.ref apr), .val (.int (0 : Int32)), .val (.int (1 : Int32)), .val (.ref atb), .val (.ref and0), .val (.int (16 : Int32)), .val (.int (0 : Int32)), .unset, .val .null, .unset] [(.ref and0)])) _
    refine XS.astore X5.here hx rfl (hb hby d15_99) rfl rfl (l' := #[.val (.ref amap), .val (.int (0 : Int32)), .val .null, .val (.ref apr), .val (.int (0 : Int32)), .val (.int (1 : Int32)), .val (.ref atb), .val (.ref and0), .val (.int (16 : Int32)), .val (.int (0 : Int32)), .val (.ref and0), .val .null, .unset]) rfl ?_
    refine XS.goto X5.here hx rfl (pc0 := 101) (pc' := 222) rfl (hb hby d15_101) (by decide) (by decide) ?_
    refine XS.aload X5.here hx rfl (hb hby d15_222) rfl rfl ?_
    show Steps p.tables e below (T5.setTop (mkF m 224 #[.val (.ref amap), .val (.int (0 : Int32)), .val .null, .val (.ref apr), .val (.int (0 : Int32)), .val (.int (1 : Int32)), .val (.ref atb), .val (.ref and0), .val (.int (16 : Int32)), .val (.int (0 : Int32)), .val (.ref and0), .val .null, .unset] [(.ref and0)])) _
    refine XS.ifnullNo X5.here hx rfl (hb hby d15_224) rfl ?_
    refine XS.aload X5.here hx rfl (hb hby d15_227) rfl rfl ?_
    show Steps p.tables e below (T5.setTop (mkF m 229 #[.val (.ref amap), .val (.int (0 : Int32)), .val .null, .val (.ref apr), .val (.int (0 : Int32)), .val (.int (1 : Int32)), .val (.ref atb), .val (.ref and0), .val (.int (16 : Int32)), .val (.int (0 : Int32)), .val (.ref and0), .val .null, .unset] [(.ref and0)])) _
    refine st6 _ ?_
    show Steps p.tables e below (T6.setTop (mkF m 232 #[.val (.ref amap), .val (.int (0 : Int32)), .val .null, .val (.ref apr), .val (.int (0 : Int32)), .val (.int (1 : Int32)), .val (.ref atb), .val (.ref and0), .val (.int (16 : Int32)), .val (.int (0 : Int32)), .val (.ref and0), .val .null, .unset] [(.ref apr)])) _
    refine XS.astore X6.here hx rfl (hb hby d15_232) rfl rfl (l' := #[.val (.ref amap), .val (.int (0 : Int32)), .val .null, .val (.ref apr), .val (.int (0 : Int32)), .val (.int (1 : Int32)), .val (.ref atb), .val (.ref and0), .val (.int (16 : Int32)), .val (.int (0 : Int32)), .val (.ref and0), .val .null, .val (.ref apr)]) rfl ?_
    refine XS.iload X6.here hx rfl (hb hby d15_234) rfl ?_
    show Steps p.tables e below (T6.setTop (mkF m 236 #[.val (.ref amap), .val (.int (0 : Int32)), .val .null, .val (.ref apr), .val (.int (0 : Int32)), .val (.int (1 : Int32)), .val (.ref atb), .val (.ref and0), .val (.int (16 : Int32)), .val (.int (0 : Int32)), .val (.ref and0), .val .null, .val (.ref apr)] [(.int (0 : Int32))])) _
    refine XS.ifYes X6.here hx rfl (pc0 := 236) (pc' := 244) rfl (hb hby d15_236) rfl ((if0 _ _).trans (teq (by decide : (0 : Int32) = (0 : Int32))).1) (by decide) (by decide) ?_
    refine XS.aload X6.here hx rfl (hb hby d15_244) rfl rfl ?_
    refine XS.aloadN X6.here hx rfl (hb hby d15_246) rfl rfl ?_
    show Steps p.tables e below (T6.setTop (mkF m 247 #[.val (.ref amap), .val (.int (0 : Int32)), .val .null, .val (.ref apr), .val (.int (0 : Int32)), .val (.int (1 : Int32)), .val (.ref atb), .val (.ref and0), .val (.int (16 : Int32)), .val (.int (0 : Int32)), .val (.ref and0), .val .null, .val (.ref apr)] [(.ref apr), (.ref and0)])) _
    refine st7 _ ?_
    refine XS.aloadN X7.here hx rfl (hb hby d15_250) rfl rfl ?_
    refine XS.aload X7.here hx rfl (hb hby d15_251) rfl rfl ?_
    show Steps p.tables e below (T7.setTop (mkF m 253 #[.val (.ref amap), .val (.int (0 : Int32)), .val .null, .val (.ref apr), .val (.int (0 : Int32)), .val (.int (1 : Int32)), .val (.ref atb), .val (.ref and0), .val (.int (16 : Int32)), .val (.int (0 : Int32)), .val (.ref and0), .val .null, .val (.ref apr)] [(.ref and0), (.ref amap)])) _
    refine st8.trans ?_
    refine XS.aload X8.here hx rfl (hb hby d15_256) rfl rfl ?_
    show Steps p.tables e below (T8.setTop (mkF m 258 #[.val (.ref amap), .val (.int (0 : Int32)), .val .null, .val (.ref apr), .val (.int (0 : Int32)), .val (.int (1 : Int32)), .val (.ref atb), .val (.ref and0), .val (.int (16 : Int32)), .val (.int (0 : Int32)), .val (.ref and0), .val .null, .val (.ref apr)] [(.ref apr)])) _
    jvm_step X8.here [X8.here.top, hx, (hb hby d15_258), X8.method', Bd.returns, Value.isRef, FieldType.isReference]
    first | (intro acts; rw [hr _ acts rfl rfl rfl]) | rw [hr _ _ rfl rfl rfl]
    exact Steps.refl _
  · show Q15b Z amap apr atb and0 kt h0 n0 _ T8.heap _
    rw [e8]
    exact ⟨rfl, N8, K7, c7_E_and0, c7_F_and0_hash, c7_F_and0_key, c7_F_and0_value, c7_F_and0_next⟩
theorem ef_13n (m : MethodId) (x0 : Addr) (x2 : Addr) : entryFrame m #[(.ref x0), .null, (.ref x2)] 3 = mkF m 0 #[.val (.ref x0), .val .null, .val (.ref x2)] [] := by first | (simp [entryFrame, mkF, argsToLocals, Value.category]; done) | rfl
def Q13a (Z : State) (amap : Addr) (apr : Addr)  (h0 : Heap) (n0 : Nat) (v : Option Value) (h : Heap) (L : List Loc) : Prop := ∃ (b4_2_2 : Addr), ∃ (k4_2_2 : ClassId), ∃ (b1_5_2 : Addr), v = some .null ∧ Fr n0 L ∧ Keep h0 h [amap] ∧ Exa Z h amap "java/util/HashMap" ∧ Fld Z h amap "java/util/HashMap" "table" "[Ljava/util/HashMap$Node;" (.ref b4_2_2) ∧ Fld Z h amap "java/util/HashMap" "threshold" "I" (.int (12 : Int32)) ∧ Fld Z h amap "java/util/HashMap" "modCount" "I" (.int (1 : Int32)) ∧ Fld Z h amap "java/util/HashMap" "size" "I" (.int (1 : Int32)) ∧ Fld Z h amap "java/util/HashMap" "loadFactor" "F" (.float (1061158912 : UInt32)) ∧ Arv Z h b4_2_2 k4_2_2 (.object "java/util/HashMap$Node") (16 : Int32) [(.ref b1_5_2), .null, .null, .null, .null, .null, .null, .null, .null, .null, .null, .null, .null, .null, .null, .null] .null ∧ Ovr Z k4_2_2 "java/util/HashMap$Node" ∧ n0 ≤ b4_2_2 ∧ h0.size ≤ b4_2_2 ∧ Exa Z h b1_5_2 "java/util/HashMap$Node" ∧ Fld Z h b1_5_2 "java/util/HashMap$Node" "hash" "I" (.int (0 : Int32)) ∧ Fld Z h b1_5_2 "java/util/HashMap$Node" "key" "Ljava/lang/Object;" .null ∧ Fld Z h b1_5_2 "java/util/HashMap$Node" "value" "Ljava/lang/Object;" (.ref apr) ∧ Fld Z h b1_5_2 "java/util/HashMap$Node" "next" "Ljava/util/HashMap$Node;" .null ∧ n0 ≤ b1_5_2 ∧ h0.size ≤ b1_5_2 ∧ b4_2_2 ≠ b1_5_2
set_option maxRecDepth 65536 in
set_option maxHeartbeats 40000000 in
theorem rm13a (l : Launch) (Z : State) (a0 : Array Value) (hw : ∀ d ∈ tables_1, d.before a0 Z = true) (ws : List Jvm.Cond) (amap : Addr) (apr : Addr)  (h0 : Heap) (n0 : Nat) (Z0 : n0 ≤ h0.size) (E_amap : Exa Z h0 amap "java/util/HashMap") (F_amap_table : Fld Z h0 amap "java/util/HashMap" "table" "[Ljava/util/HashMap$Node;" .null) (F_amap_threshold : Fld Z h0 amap "java/util/HashMap" "threshold" "I" (.int (0 : Int32))) (F_amap_modCount : Fld Z h0 amap "java/util/HashMap" "modCount" "I" (.int (0 : Int32))) (F_amap_size : Fld Z h0 amap "java/util/HashMap" "size" "I" (.int (0 : Int32))) (F_amap_loadFactor : Fld Z h0 amap "java/util/HashMap" "loadFactor" "F" (.float (1061158912 : UInt32))) (g_amap : n0 ≤ amap) :
    MetFree l (⟨"java/util/HashMap", "put", "(Ljava/lang/Object;Ljava/lang/Object;)Ljava/lang/Object;"⟩ : MethodName) (head1 (Jvm.Cond.code (⟨"java/util/HashMap", "put", "(Ljava/lang/Object;Ljava/lang/Object;)Ljava/lang/Object;"⟩ : MethodName) jdk_69_method_15_code 3 (some (.object "java/lang/Object")) :: ws) ({ frames := 4, cells := 2, slots := 20, locals := 71 } : Room)) (fun a U => a = #[(.ref amap), .null, (.ref apr)] ∧ Z.Warmed39 U.vm ∧ U.heap = h0) (fun _ _ _ _ _ => True) (fun _ U o U' => ∃ v L, o = .returned v ∧ Q13a Z amap apr h0 n0 v U'.heap L ∧ FrameEnd U o U' L ({ frames := 4, cells := 2, slots := 20, locals := 71 } : Room).cells ({ frames := 4, cells := 2, slots := 20, locals := 71 } : Room).slots) := by
  refine MetFree.of_bodySF (plainFor_of_name pn_13) hisR ?_
  intro p e s m args below meth c s₁ Bd hml0 hP hK
  obtain ⟨rfl, hZ, hh⟩ := hP
  have hx := Bd.exec
  have hby := Bd.bytes
  have hml : c.maxLocals = 3 := hml0
  have hown : s.vm.findClass "java/util/HashMap" = some m.cls := findClass_of_methodNamed Bd.named
  have X0 : Stand p l e ({ frames := 4, cells := 2, slots := 20, locals := 71 } : Room) s m #[(.ref amap), .null, (.ref apr)] below meth c s₁ [] 0 0 := Stand.of_body Bd
  have e0 : s₁.heap = h0 := by rw [← hh, Bd.state]; rfl
  have N0 := Fr.nil n0
  have pre0 : ∀ t, Steps p.tables e below (s₁.setTop (mkF m 0 #[.val (.ref amap), .val .null, .val (.ref apr)] [])) t → Steps p.tables e below (s₁.setTop (entryFrame m #[(.ref amap), .null, (.ref apr)] 3)) t := fun t k => castTop (ef_13n m amap apr) k
  have K0 : Keep h0 h0 [amap] := Keep.refl h0 _
  obtain ⟨_, _, ⟨T1, L1, k1, n1⟩, -, X1, ⟨Lc1, hQ1, l1, y1, z1⟩, st1⟩ := Jvm.LawKit.callS X0 hx (y := (⟨"java/util/HashMap", "hash", "(Ljava/lang/Object;)I"⟩ : MethodName)) hown (mvT hZ (hw _ (List.mem_of_getElem? (i := 111) rfl))) (mvT hZ (hw _ (List.mem_of_getElem? (i := 112) rfl))) (mvT hZ (hw _ (List.mem_of_getElem? (i := 30) rfl))) (mvT hZ (hw _ (List.mem_of_getElem? (i := 113) rfl))) (by decide) (backOf (W := 1) (rm14 l Z a0 hw []  h0 n0 Z0) hZ (hw _ (List.mem_of_getElem? (i := 113) rfl)) (hw _ (List.mem_of_getElem? (i := 30) rfl)) (by decide) (by decide)) (g := (mkF m 2 #[.val (.ref amap), .val .null, .val (.ref apr)] [.null, (.ref amap)])) rfl (by rw [hml]; rfl) (argsL := [.null]) (rest := [(.ref amap)]) (lenOf pd_6 rfl) rfl (by show 2 * 0 + _ ≤ _; exact Nat.le_of_eq rfl) (hb hby d13_2) (fun _ _ => ⟨rfl, e0, (by decide : 0 + 0 ≤ _), (by decide : 0 + 0 ≤ _)⟩)
  dsimp only [Pt.U, Pt.locs, Pt.cells, Pt.slots] at X1 l1 y1 z1 st1 hQ1
  subst l1 y1 z1
  obtain ⟨rfl, N1q, e1⟩ := hQ1
  have N1 := Fr.app N0 N1q
  obtain ⟨cq2, kq2, q2a, q2b, q2c⟩ := isOf hZ e1 E_amap
  obtain ⟨_, _, ⟨T2, L2, k2, n2⟩, -, X2, ⟨Lc2, hQ2, l2, y2, z2⟩, st2⟩ := X1.virtualBack hx (y := (⟨"java/util/HashMap", "putVal", "(ILjava/lang/Object;Ljava/lang/Object;ZZ)Ljava/lang/Object;"⟩ : MethodName)) (z := (⟨"java/util/HashMap", "putVal", "(ILjava/lang/Object;Ljava/lang/Object;ZZ)Ljava/lang/Object;"⟩ : MethodName)) hown (mvT hZ (hw _ (List.mem_of_getElem? (i := 114) rfl))) (mvT hZ (hw _ (List.mem_of_getElem? (i := 115) rfl))) (notFace_of_selects (args := #[]) (mvT hZ (hw _ (List.mem_of_getElem? (i := 117) rfl)))) (mvT hZ (hw _ (List.mem_of_getElem? (i := 117) rfl))) (mvT hZ (hw _ (List.mem_of_getElem? (i := 116) rfl))) (by decide) (backOf (W := 0) (rm15a l Z a0 hw [] amap apr  h0 n0 Z0 E_amap F_amap_table F_amap_threshold F_amap_modCount F_amap_size F_amap_loadFactor g_amap) hZ (hw _ (List.mem_of_getElem? (i := 118) rfl)) (hw _ (List.mem_of_getElem? (i := 30) rfl)) (by decide) (by decide)) q2a q2c (g := (mkF m 9 #[.val (.ref amap), .val .null, .val (.ref apr)] [(.int (1 : Int32)), (.int (0 : Int32)), (.ref apr), .null, (.int (0 : Int32)), (.ref amap)])) rfl (by rw [hml]; rfl) (Steps.refl _) (argsL := [(.int (0 : Int32)), .null, (.ref apr), (.int (0 : Int32)), (.int (1 : Int32))]) (rest := []) (lenOf pd_7 rfl) rfl (by show 2 * 0 + _ ≤ _; exact Nat.le_of_eq rfl) (hb hby d13_9) (fun _ _ => ⟨rfl, e1, (by decide : 0 + 2 ≤ _), (by decide : 0 + 20 ≤ _)⟩)
  dsimp only [Pt.U, Pt.locs, Pt.cells, Pt.slots] at X2 l2 y2 z2 st2 hQ2
  subst l2 y2 z2
  obtain ⟨b4_2_2, k4_2_2, b1_5_2, rfl, N2q, K2q, t2_0, t2_1, t2_2, t2_3, t2_4, t2_5, t2_6, t2_7, t2_8, t2_9, t2_10, t2_11, t2_12, t2_13, t2_14, t2_15, t2_16, t2_17⟩ := hQ2
  have N2 := Fr.app N1 N2q
  have sz_b4_2_2 : h0.size ≤ b4_2_2 := Nat.le_trans K0.1 t2_9
  have sz_b1_5_2 : h0.size ≤ b1_5_2 := Nat.le_trans K0.1 t2_16
  have K2 : Keep h0 T2.heap [amap] := K0.trans K2q (fun x hx => by simp only [List.mem_cons, List.not_mem_nil, or_false] at hx; rcases hx with rfl <;> first | exact (Or.inl (List.mem_of_getElem? (i := 0) rfl)))
  obtain ⟨fs, hr, hrun, hended, hW, hsame⟩ := X2.leave (v := some .null) (fun h => by rw [Bd.returns] at h; cases h)
  refine ⟨_, _, pre0 _ ?_, hrun, hended, _, _, rfl, ?_, ⟨_, rfl⟩, hW, hsame.mono (by decide) (by decide)⟩
  · show Steps p.tables e below (s₁.setTop (mkF m 0 #[.val (.ref amap), .val .null, .val (.ref apr)] [])) _
    refine XS.aloadN X0.here hx rfl (hb hby d13_0) rfl rfl ?_
    refine XS.aloadN X0.here hx rfl (hb hby d13_1) rfl rfl ?_
    show Steps p.tables e below (s₁.setTop (mkF m 2 #[.val (.ref amap), .val .null, .val (.ref apr)] [.null, (.ref amap)])) _
    refine st1 _ ?_
    refine XS.aloadN X1.here hx rfl (hb hby d13_5) rfl rfl ?_
    refine XS.aloadN X1.here hx rfl (hb hby d13_6) rfl rfl ?_
    refine XS.iconst X1.here hx rfl (hb hby d13_7) ?_
    show Steps p.tables e below (T1.setTop (mkF m 8 #[.val (.ref amap), .val .null, .val (.ref apr)] [(.int (0 : Int32)), (.ref apr), .null, (.int (0 : Int32)), (.ref amap)])) _
    refine XS.iconst X1.here hx rfl (hb hby d13_8) ?_
    show Steps p.tables e below (T1.setTop (mkF m 9 #[.val (.ref amap), .val .null, .val (.ref apr)] [(.int (1 : Int32)), (.int (0 : Int32)), (.ref apr), .null, (.int (0 : Int32)), (.ref amap)])) _
    refine st2.trans ?_
    show Steps p.tables e below (T2.setTop (mkF m 12 #[.val (.ref amap), .val .null, .val (.ref apr)] [.null])) _
    jvm_step X2.here [X2.here.top, hx, (hb hby d13_12), X2.method', Bd.returns, Value.isRef, FieldType.isReference]
    first | (intro acts; rw [hr _ acts rfl rfl rfl]) | rw [hr _ _ rfl rfl rfl]
    exact Steps.refl _
  · show Q13a Z amap apr h0 n0 _ T2.heap _
    exact ⟨b4_2_2, k4_2_2, b1_5_2, rfl, N2, K2, t2_0, t2_1, t2_2, t2_3, t2_4, t2_5, t2_6, t2_7, t2_8, sz_b4_2_2, t2_10, t2_11, t2_12, t2_13, t2_14, t2_15, sz_b1_5_2, t2_17⟩
def Q13b (Z : State) (amap : Addr) (apr : Addr) (atb : Addr) (and0 : Addr) (kt : ClassId) (h0 : Heap) (n0 : Nat) (v : Option Value) (h : Heap) (L : List Loc) : Prop := v = some (.ref apr) ∧ Fr n0 L ∧ Keep h0 h [and0] ∧ Exa Z h and0 "java/util/HashMap$Node" ∧ Fld Z h and0 "java/util/HashMap$Node" "hash" "I" (.int (0 : Int32)) ∧ Fld Z h and0 "java/util/HashMap$Node" "key" "Ljava/lang/Object;" .null ∧ Fld Z h and0 "java/util/HashMap$Node" "value" "Ljava/lang/Object;" (.ref apr) ∧ Fld Z h and0 "java/util/HashMap$Node" "next" "Ljava/util/HashMap$Node;" .null
set_option maxRecDepth 65536 in
set_option maxHeartbeats 40000000 in
theorem rm13b (l : Launch) (Z : State) (a0 : Array Value) (hw : ∀ d ∈ tables_1, d.before a0 Z = true) (ws : List Jvm.Cond) (amap : Addr) (apr : Addr) (atb : Addr) (and0 : Addr) (kt : ClassId) (h0 : Heap) (n0 : Nat) (Z0 : n0 ≤ h0.size) (E_amap : Exa Z h0 amap "java/util/HashMap") (F_amap_table : Fld Z h0 amap "java/util/HashMap" "table" "[Ljava/util/HashMap$Node;" (.ref atb)) (F_amap_threshold : Fld Z h0 amap "java/util/HashMap" "threshold" "I" (.int (12 : Int32))) (F_amap_modCount : Fld Z h0 amap "java/util/HashMap" "modCount" "I" (.int (1 : Int32))) (F_amap_size : Fld Z h0 amap "java/util/HashMap" "size" "I" (.int (1 : Int32))) (F_amap_loadFactor : Fld Z h0 amap "java/util/HashMap" "loadFactor" "F" (.float (1061158912 : UInt32))) (E_and0 : Exa Z h0 and0 "java/util/HashMap$Node") (F_and0_hash : Fld Z h0 and0 "java/util/HashMap$Node" "hash" "I" (.int (0 : Int32))) (F_and0_key : Fld Z h0 and0 "java/util/HashMap$Node" "key" "Ljava/lang/Object;" .null) (F_and0_value : Fld Z h0 and0 "java/util/HashMap$Node" "value" "Ljava/lang/Object;" (.ref apr)) (F_and0_next : Fld Z h0 and0 "java/util/HashMap$Node" "next" "Ljava/util/HashMap$Node;" .null) (V_atb : Arv Z h0 atb kt (.object "java/util/HashMap$Node") (16 : Int32) [(.ref and0), .null, .null, .null, .null, .null, .null, .null, .null, .null, .null, .null, .null, .null, .null, .null] .null) (Ov_atb : Ovr Z kt "java/util/HashMap$Node") (ne_amap_and0 : amap ≠ and0) (ne_amap_atb : amap ≠ atb) (ne_and0_atb : and0 ≠ atb) (g_and0 : n0 ≤ and0) :
    MetFree l (⟨"java/util/HashMap", "put", "(Ljava/lang/Object;Ljava/lang/Object;)Ljava/lang/Object;"⟩ : MethodName) (head1 (Jvm.Cond.code (⟨"java/util/HashMap", "put", "(Ljava/lang/Object;Ljava/lang/Object;)Ljava/lang/Object;"⟩ : MethodName) jdk_69_method_15_code 3 (some (.object "java/lang/Object")) :: ws) ({ frames := 2, cells := 0, slots := 0, locals := 37 } : Room)) (fun a U => a = #[(.ref amap), .null, (.ref apr)] ∧ Z.Warmed39 U.vm ∧ U.heap = h0) (fun _ _ _ _ _ => True) (fun _ U o U' => ∃ v L, o = .returned v ∧ Q13b Z amap apr atb and0 kt h0 n0 v U'.heap L ∧ FrameEnd U o U' L ({ frames := 2, cells := 0, slots := 0, locals := 37 } : Room).cells ({ frames := 2, cells := 0, slots := 0, locals := 37 } : Room).slots) := by
  refine MetFree.of_bodySF (plainFor_of_name pn_13) hisR ?_
  intro p e s m args below meth c s₁ Bd hml0 hP hK
  obtain ⟨rfl, hZ, hh⟩ := hP
  have hx := Bd.exec
  have hby := Bd.bytes
  have hml : c.maxLocals = 3 := hml0
  have hown : s.vm.findClass "java/util/HashMap" = some m.cls := findClass_of_methodNamed Bd.named
  have X0 : Stand p l e ({ frames := 2, cells := 0, slots := 0, locals := 37 } : Room) s m #[(.ref amap), .null, (.ref apr)] below meth c s₁ [] 0 0 := Stand.of_body Bd
  have e0 : s₁.heap = h0 := by rw [← hh, Bd.state]; rfl
  have N0 := Fr.nil n0
  have pre0 : ∀ t, Steps p.tables e below (s₁.setTop (mkF m 0 #[.val (.ref amap), .val .null, .val (.ref apr)] [])) t → Steps p.tables e below (s₁.setTop (entryFrame m #[(.ref amap), .null, (.ref apr)] 3)) t := fun t k => castTop (ef_13n m amap apr) k
  have K0 : Keep h0 h0 [and0] := Keep.refl h0 _
  obtain ⟨_, _, ⟨T1, L1, k1, n1⟩, -, X1, ⟨Lc1, hQ1, l1, y1, z1⟩, st1⟩ := Jvm.LawKit.callS X0 hx (y := (⟨"java/util/HashMap", "hash", "(Ljava/lang/Object;)I"⟩ : MethodName)) hown (mvT hZ (hw _ (List.mem_of_getElem? (i := 111) rfl))) (mvT hZ (hw _ (List.mem_of_getElem? (i := 112) rfl))) (mvT hZ (hw _ (List.mem_of_getElem? (i := 30) rfl))) (mvT hZ (hw _ (List.mem_of_getElem? (i := 113) rfl))) (by decide) (backOf (W := 1) (rm14 l Z a0 hw []  h0 n0 Z0) hZ (hw _ (List.mem_of_getElem? (i := 113) rfl)) (hw _ (List.mem_of_getElem? (i := 30) rfl)) (by decide) (by decide)) (g := (mkF m 2 #[.val (.ref amap), .val .null, .val (.ref apr)] [.null, (.ref amap)])) rfl (by rw [hml]; rfl) (argsL := [.null]) (rest := [(.ref amap)]) (lenOf pd_6 rfl) rfl (by show 2 * 0 + _ ≤ _; exact Nat.le_of_eq rfl) (hb hby d13_2) (fun _ _ => ⟨rfl, e0, (by decide : 0 + 0 ≤ _), (by decide : 0 + 0 ≤ _)⟩)
  dsimp only [Pt.U, Pt.locs, Pt.cells, Pt.slots] at X1 l1 y1 z1 st1 hQ1
  subst l1 y1 z1
  obtain ⟨rfl, N1q, e1⟩ := hQ1
  have N1 := Fr.app N0 N1q
  obtain ⟨cq2, kq2, q2a, q2b, q2c⟩ := isOf hZ e1 E_amap
  obtain ⟨_, _, ⟨T2, L2, k2, n2⟩, -, X2, ⟨Lc2, hQ2, l2, y2, z2⟩, st2⟩ := X1.virtualBack hx (y := (⟨"java/util/HashMap", "putVal", "(ILjava/lang/Object;Ljava/lang/Object;ZZ)Ljava/lang/Object;"⟩ : MethodName)) (z := (⟨"java/util/HashMap", "putVal", "(ILjava/lang/Object;Ljava/lang/Object;ZZ)Ljava/lang/Object;"⟩ : MethodName)) hown (mvT hZ (hw _ (List.mem_of_getElem? (i := 114) rfl))) (mvT hZ (hw _ (List.mem_of_getElem? (i := 115) rfl))) (notFace_of_selects (args := #[]) (mvT hZ (hw _ (List.mem_of_getElem? (i := 117) rfl)))) (mvT hZ (hw _ (List.mem_of_getElem? (i := 117) rfl))) (mvT hZ (hw _ (List.mem_of_getElem? (i := 116) rfl))) (by decide) (backOf (W := 0) (rm15b l Z a0 hw [] amap apr atb and0 kt h0 n0 Z0 E_amap F_amap_table F_amap_threshold F_amap_modCount F_amap_size F_amap_loadFactor E_and0 F_and0_hash F_and0_key F_and0_value F_and0_next V_atb Ov_atb ne_amap_and0 ne_amap_atb ne_and0_atb g_and0) hZ (hw _ (List.mem_of_getElem? (i := 118) rfl)) (hw _ (List.mem_of_getElem? (i := 30) rfl)) (by decide) (by decide)) q2a q2c (g := (mkF m 9 #[.val (.ref amap), .val .null, .val (.ref apr)] [(.int (1 : Int32)), (.int (0 : Int32)), (.ref apr), .null, (.int (0 : Int32)), (.ref amap)])) rfl (by rw [hml]; rfl) (Steps.refl _) (argsL := [(.int (0 : Int32)), .null, (.ref apr), (.int (0 : Int32)), (.int (1 : Int32))]) (rest := []) (lenOf pd_7 rfl) rfl (by show 2 * 0 + _ ≤ _; exact Nat.le_of_eq rfl) (hb hby d13_9) (fun _ _ => ⟨rfl, e1, (by decide : 0 + 0 ≤ _), (by decide : 0 + 0 ≤ _)⟩)
  dsimp only [Pt.U, Pt.locs, Pt.cells, Pt.slots] at X2 l2 y2 z2 st2 hQ2
  subst l2 y2 z2
  obtain ⟨rfl, N2q, K2q, t2_0, t2_1, t2_2, t2_3, t2_4⟩ := hQ2
  have N2 := Fr.app N1 N2q
  have K2 : Keep h0 T2.heap [and0] := K0.trans K2q (fun x hx => by simp only [List.mem_cons, List.not_mem_nil, or_false] at hx; rcases hx with rfl <;> first | exact (Or.inl (List.mem_of_getElem? (i := 0) rfl)))
  obtain ⟨fs, hr, hrun, hended, hW, hsame⟩ := X2.leave (v := some (.ref apr)) (fun h => by rw [Bd.returns] at h; cases h)
  refine ⟨_, _, pre0 _ ?_, hrun, hended, _, _, rfl, ?_, ⟨_, rfl⟩, hW, hsame.mono (by decide) (by decide)⟩
  · show Steps p.tables e below (s₁.setTop (mkF m 0 #[.val (.ref amap), .val .null, .val (.ref apr)] [])) _
    refine XS.aloadN X0.here hx rfl (hb hby d13_0) rfl rfl ?_
    refine XS.aloadN X0.here hx rfl (hb hby d13_1) rfl rfl ?_
    show Steps p.tables e below (s₁.setTop (mkF m 2 #[.val (.ref amap), .val .null, .val (.ref apr)] [.null, (.ref amap)])) _
    refine st1 _ ?_
    refine XS.aloadN X1.here hx rfl (hb hby d13_5) rfl rfl ?_
    refine XS.aloadN X1.here hx rfl (hb hby d13_6) rfl rfl ?_
    refine XS.iconst X1.here hx rfl (hb hby d13_7) ?_
    show Steps p.tables e below (T1.setTop (mkF m 8 #[.val (.ref amap), .val .null, .val (.ref apr)] [(.int (0 : Int32)), (.ref apr), .null, (.int (0 : Int32)), (.ref amap)])) _
    refine XS.iconst X1.here hx rfl (hb hby d13_8) ?_
    show Steps p.tables e below (T1.setTop (mkF m 9 #[.val (.ref amap), .val .null, .val (.ref apr)] [(.int (1 : Int32)), (.int (0 : Int32)), (.ref apr), .null, (.int (0 : Int32)), (.ref amap)])) _
    refine st2.trans ?_
    show Steps p.tables e below (T2.setTop (mkF m 12 #[.val (.ref amap), .val .null, .val (.ref apr)] [(.ref apr)])) _
    jvm_step X2.here [X2.here.top, hx, (hb hby d13_12), X2.method', Bd.returns, Value.isRef, FieldType.isReference]
    first | (intro acts; rw [hr _ acts rfl rfl rfl]) | rw [hr _ _ rfl rfl rfl]
    exact Steps.refl _
  · show Q13b Z amap apr atb and0 kt h0 n0 _ T2.heap _
    exact ⟨rfl, N2, K2, t2_0, t2_1, t2_2, t2_3, t2_4⟩
theorem ef_12n (m : MethodId) (x0 : Addr) : entryFrame m #[(.ref x0), .null] 2 = mkF m 0 #[.val (.ref x0), .val .null] [] := by first | (simp [entryFrame, mkF, argsToLocals, Value.category]; done) | rfl
def Q12a (Z : State) (aset : Addr) (amap : Addr) (apr : Addr) (h0 : Heap) (n0 : Nat) (v : Option Value) (h : Heap) (L : List Loc) : Prop := ∃ (b4_2_2_3 : Addr), ∃ (k4_2_2_3 : ClassId), ∃ (b1_5_2_3 : Addr), v = some (.int (1 : Int32)) ∧ Fr n0 L ∧ Keep h0 h [amap] ∧ Exa Z h amap "java/util/HashMap" ∧ Fld Z h amap "java/util/HashMap" "table" "[Ljava/util/HashMap$Node;" (.ref b4_2_2_3) ∧ Fld Z h amap "java/util/HashMap" "threshold" "I" (.int (12 : Int32)) ∧ Fld Z h amap "java/util/HashMap" "modCount" "I" (.int (1 : Int32)) ∧ Fld Z h amap "java/util/HashMap" "size" "I" (.int (1 : Int32)) ∧ Fld Z h amap "java/util/HashMap" "loadFactor" "F" (.float (1061158912 : UInt32)) ∧ Arv Z h b4_2_2_3 k4_2_2_3 (.object "java/util/HashMap$Node") (16 : Int32) [(.ref b1_5_2_3), .null, .null, .null, .null, .null, .null, .null, .null, .null, .null, .null, .null, .null, .null, .null] .null ∧ Ovr Z k4_2_2_3 "java/util/HashMap$Node" ∧ n0 ≤ b4_2_2_3 ∧ h0.size ≤ b4_2_2_3 ∧ Exa Z h b1_5_2_3 "java/util/HashMap$Node" ∧ Fld Z h b1_5_2_3 "java/util/HashMap$Node" "hash" "I" (.int (0 : Int32)) ∧ Fld Z h b1_5_2_3 "java/util/HashMap$Node" "key" "Ljava/lang/Object;" .null ∧ Fld Z h b1_5_2_3 "java/util/HashMap$Node" "value" "Ljava/lang/Object;" (.ref apr) ∧ Fld Z h b1_5_2_3 "java/util/HashMap$Node" "next" "Ljava/util/HashMap$Node;" .null ∧ n0 ≤ b1_5_2_3 ∧ h0.size ≤ b1_5_2_3 ∧ b4_2_2_3 ≠ b1_5_2_3
set_option maxRecDepth 65536 in
set_option maxHeartbeats 40000000 in
theorem rm12a (l : Launch) (Z : State) (a0 : Array Value) (hw : ∀ d ∈ tables_1, d.before a0 Z = true) (ws : List Jvm.Cond) (aset : Addr) (amap : Addr) (apr : Addr) (h0 : Heap) (n0 : Nat) (Z0 : n0 ≤ h0.size) (S_PRESENT : Sta Z h0 "java/util/HashSet" "PRESENT" "Ljava/lang/Object;" (.ref apr)) (E_aset : Exa Z h0 aset "java/util/HashSet") (F_aset_map : Fld Z h0 aset "java/util/HashSet" "map" "Ljava/util/HashMap;" (.ref amap)) (E_amap : Exa Z h0 amap "java/util/HashMap") (F_amap_table : Fld Z h0 amap "java/util/HashMap" "table" "[Ljava/util/HashMap$Node;" .null) (F_amap_threshold : Fld Z h0 amap "java/util/HashMap" "threshold" "I" (.int (0 : Int32))) (F_amap_modCount : Fld Z h0 amap "java/util/HashMap" "modCount" "I" (.int (0 : Int32))) (F_amap_size : Fld Z h0 amap "java/util/HashMap" "size" "I" (.int (0 : Int32))) (F_amap_loadFactor : Fld Z h0 amap "java/util/HashMap" "loadFactor" "F" (.float (1061158912 : UInt32))) (ne_aset_amap : aset ≠ amap) (g_amap : n0 ≤ amap) :
    MetFree l (⟨"java/util/HashSet", "add", "(Ljava/lang/Object;)Z"⟩ : MethodName) (head1 (Jvm.Cond.code (⟨"java/util/HashSet", "add", "(Ljava/lang/Object;)Z"⟩ : MethodName) jdk_93_method_10_code 2 (some .boolean) :: ws) ({ frames := 5, cells := 2, slots := 20, locals := 85 } : Room)) (fun a U => a = #[(.ref aset), .null] ∧ Z.Warmed39 U.vm ∧ U.heap = h0) (fun _ _ _ _ _ => True) (fun _ U o U' => ∃ v L, o = .returned v ∧ Q12a Z aset amap apr h0 n0 v U'.heap L ∧ FrameEnd U o U' L ({ frames := 5, cells := 2, slots := 20, locals := 85 } : Room).cells ({ frames := 5, cells := 2, slots := 20, locals := 85 } : Room).slots) := by
  refine MetFree.of_bodySF (plainFor_of_name pn_12) hisR ?_
  intro p e s m args below meth c s₁ Bd hml0 hP hK
  obtain ⟨rfl, hZ, hh⟩ := hP
  have hx := Bd.exec
  have hby := Bd.bytes
  have hml : c.maxLocals = 2 := hml0
  have hown : s.vm.findClass "java/util/HashSet" = some m.cls := findClass_of_methodNamed Bd.named
  have X0 : Stand p l e ({ frames := 5, cells := 2, slots := 20, locals := 85 } : Room) s m #[(.ref aset), .null] below meth c s₁ [] 0 0 := Stand.of_body Bd
  have e0 : s₁.heap = h0 := by rw [← hh, Bd.state]; rfl
  have N0 := Fr.nil n0
  have pre0 : ∀ t, Steps p.tables e below (s₁.setTop (mkF m 0 #[.val (.ref aset), .val .null] [])) t → Steps p.tables e below (s₁.setTop (entryFrame m #[(.ref aset), .null] 2)) t := fun t k => castTop (ef_12n m aset) k
  have K0 : Keep h0 h0 [amap] := Keep.refl h0 _
  obtain ⟨T1, X1, e1, st1⟩ := getF X0 hx hZ hown (host := "") (Or.inl (hw _ (List.mem_of_getElem? (i := 45) rfl))) Via.refl e0 F_aset_map (g := (mkF m 1 #[.val (.ref aset), .val .null] [(.ref aset)])) rfl rfl (hb hby d12_1)
  obtain ⟨T2, X2, e2, st2⟩ := getS2 X1 hx hZ hown (host := "") (Or.inl (hw _ (List.mem_of_getElem? (i := 105) rfl))) Via.refl e1 S_PRESENT (g := (mkF m 5 #[.val (.ref aset), .val .null] [.null, (.ref amap)])) rfl (hb hby d12_5)
  obtain ⟨cq3, kq3, q3a, q3b, q3c⟩ := isOf hZ e2 E_amap
  obtain ⟨_, _, ⟨T3, L3, k3, n3⟩, -, X3, ⟨Lc3, hQ3, l3, y3, z3⟩, st3⟩ := X2.virtualBack hx (y := (⟨"java/util/HashMap", "put", "(Ljava/lang/Object;Ljava/lang/Object;)Ljava/lang/Object;"⟩ : MethodName)) (z := (⟨"java/util/HashMap", "put", "(Ljava/lang/Object;Ljava/lang/Object;)Ljava/lang/Object;"⟩ : MethodName)) hown (mvT hZ (hw _ (List.mem_of_getElem? (i := 106) rfl))) (mvT hZ (hw _ (List.mem_of_getElem? (i := 107) rfl))) (notFace_of_selects (args := #[]) (mvT hZ (hw _ (List.mem_of_getElem? (i := 109) rfl)))) (mvT hZ (hw _ (List.mem_of_getElem? (i := 109) rfl))) (mvT hZ (hw _ (List.mem_of_getElem? (i := 108) rfl))) (by decide) (backOf (W := 0) (rm13a l Z a0 hw [] amap apr  h0 n0 Z0 E_amap F_amap_table F_amap_threshold F_amap_modCount F_amap_size F_amap_loadFactor g_amap) hZ (hw _ (List.mem_of_getElem? (i := 110) rfl)) (hw _ (List.mem_of_getElem? (i := 30) rfl)) (by decide) (by decide)) q3a q3c (g := (mkF m 8 #[.val (.ref aset), .val .null] [(.ref apr), .null, (.ref amap)])) rfl (by rw [hml]; rfl) (Steps.refl _) (argsL := [.null, (.ref apr)]) (rest := []) (lenOf pd_5 rfl) rfl (by show 2 * 0 + _ ≤ _; exact Nat.le_of_eq rfl) (hb hby d12_8) (fun _ _ => ⟨rfl, e2, (by decide : 0 + 2 ≤ _), (by decide : 0 + 20 ≤ _)⟩)
  dsimp only [Pt.U, Pt.locs, Pt.cells, Pt.slots] at X3 l3 y3 z3 st3 hQ3
  subst l3 y3 z3
  obtain ⟨b4_2_2_3, k4_2_2_3, b1_5_2_3, rfl, N3q, K3q, t3_0, t3_1, t3_2, t3_3, t3_4, t3_5, t3_6, t3_7, t3_8, t3_9, t3_10, t3_11, t3_12, t3_13, t3_14, t3_15, t3_16, t3_17⟩ := hQ3
  have N3 := Fr.app N0 N3q
  have sz_b4_2_2_3 : h0.size ≤ b4_2_2_3 := Nat.le_trans K0.1 t3_9
  have sz_b1_5_2_3 : h0.size ≤ b1_5_2_3 := Nat.le_trans K0.1 t3_16
  have K3 : Keep h0 T3.heap [amap] := K0.trans K3q (fun x hx => by simp only [List.mem_cons, List.not_mem_nil, or_false] at hx; rcases hx with rfl <;> first | exact (Or.inl (List.mem_of_getElem? (i := 0) rfl)))
  obtain ⟨fs, hr, hrun, hended, hW, hsame⟩ := X3.leave (v := some (.int (1 : Int32))) (fun h => by rw [Bd.returns] at h; cases h)
  refine ⟨_, _, pre0 _ ?_, hrun, hended, _, _, rfl, ?_, ⟨_, rfl⟩, hW, hsame.mono (by decide) (by decide)⟩
  · show Steps p.tables e below (s₁.setTop (mkF m 0 #[.val (.ref aset), .val .null] [])) _
    refine XS.aloadN X0.here hx rfl (hb hby d12_0) rfl rfl ?_
    show Steps p.tables e below (s₁.setTop (mkF m 1 #[.val (.ref aset), .val .null] [(.ref aset)])) _
    refine st1 _ ?_
    refine XS.aloadN X1.here hx rfl (hb hby d12_4) rfl rfl ?_
    show Steps p.tables e below (T1.setTop (mkF m 5 #[.val (.ref aset), .val .null] [.null, (.ref amap)])) _
    refine st2 _ ?_
    show Steps p.tables e below (T2.setTop (mkF m 8 #[.val (.ref aset), .val .null] [(.ref apr), .null, (.ref amap)])) _
    refine st3.trans ?_
    show Steps p.tables e below (T3.setTop (mkF m 11 #[.val (.ref aset), .val .null] [.null])) _
    refine XS.ifnonnullNo X3.here hx rfl (hb hby d12_11) rfl ?_
    refine XS.iconst X3.here hx rfl (hb hby d12_14) ?_
    refine XS.goto X3.here hx rfl (pc0 := 15) (pc' := 19) rfl (hb hby d12_15) (by decide) (by decide) ?_
    show Steps p.tables e below (T3.setTop (mkF m 19 #[.val (.ref aset), .val .null] [(.int (1 : Int32))])) _
    exact retN X3 hx (t := .boolean) Bd.returns (by simp) (hb hby d12_19) hr
  · show Q12a Z aset amap apr h0 n0 _ T3.heap _
    exact ⟨b4_2_2_3, k4_2_2_3, b1_5_2_3, rfl, N3, K3, t3_0, t3_1, t3_2, t3_3, t3_4, t3_5, t3_6, t3_7, t3_8, sz_b4_2_2_3, t3_10, t3_11, t3_12, t3_13, t3_14, t3_15, sz_b1_5_2_3, t3_17⟩
def Q12b (Z : State) (aset : Addr) (atb : Addr) (and0 : Addr) (kt : ClassId) (amap : Addr) (apr : Addr) (h0 : Heap) (n0 : Nat) (v : Option Value) (h : Heap) (L : List Loc) : Prop := v = some (.int (0 : Int32)) ∧ Fr n0 L ∧ Keep h0 h [and0] ∧ Exa Z h and0 "java/util/HashMap$Node" ∧ Fld Z h and0 "java/util/HashMap$Node" "hash" "I" (.int (0 : Int32)) ∧ Fld Z h and0 "java/util/HashMap$Node" "key" "Ljava/lang/Object;" .null ∧ Fld Z h and0 "java/util/HashMap$Node" "value" "Ljava/lang/Object;" (.ref apr) ∧ Fld Z h and0 "java/util/HashMap$Node" "next" "Ljava/util/HashMap$Node;" .null
set_option maxRecDepth 65536 in
set_option maxHeartbeats 40000000 in
theorem rm12b (l : Launch) (Z : State) (a0 : Array Value) (hw : ∀ d ∈ tables_1, d.before a0 Z = true) (ws : List Jvm.Cond) (aset : Addr) (atb : Addr) (and0 : Addr) (kt : ClassId) (amap : Addr) (apr : Addr) (h0 : Heap) (n0 : Nat) (Z0 : n0 ≤ h0.size) (S_PRESENT : Sta Z h0 "java/util/HashSet" "PRESENT" "Ljava/lang/Object;" (.ref apr)) (E_aset : Exa Z h0 aset "java/util/HashSet") (F_aset_map : Fld Z h0 aset "java/util/HashSet" "map" "Ljava/util/HashMap;" (.ref amap)) (E_amap : Exa Z h0 amap "java/util/HashMap") (F_amap_table : Fld Z h0 amap "java/util/HashMap" "table" "[Ljava/util/HashMap$Node;" (.ref atb)) (F_amap_threshold : Fld Z h0 amap "java/util/HashMap" "threshold" "I" (.int (12 : Int32))) (F_amap_modCount : Fld Z h0 amap "java/util/HashMap" "modCount" "I" (.int (1 : Int32))) (F_amap_size : Fld Z h0 amap "java/util/HashMap" "size" "I" (.int (1 : Int32))) (F_amap_loadFactor : Fld Z h0 amap "java/util/HashMap" "loadFactor" "F" (.float (1061158912 : UInt32))) (E_and0 : Exa Z h0 and0 "java/util/HashMap$Node") (F_and0_hash : Fld Z h0 and0 "java/util/HashMap$Node" "hash" "I" (.int (0 : Int32))) (F_and0_key : Fld Z h0 and0 "java/util/HashMap$Node" "key" "Ljava/lang/Object;" .null) (F_and0_value : Fld Z h0 and0 "java/util/HashMap$Node" "value" "Ljava/lang/Object;" (.ref apr)) (F_and0_next : Fld Z h0 and0 "java/util/HashMap$Node" "next" "Ljava/util/HashMap$Node;" .null) (V_atb : Arv Z h0 atb kt (.object "java/util/HashMap$Node") (16 : Int32) [(.ref and0), .null, .null, .null, .null, .null, .null, .null, .null, .null, .null, .null, .null, .null, .null, .null] .null) (Ov_atb : Ovr Z kt "java/util/HashMap$Node") (ne_aset_amap : aset ≠ amap) (ne_aset_and0 : aset ≠ and0) (ne_aset_atb : aset ≠ atb) (ne_amap_and0 : amap ≠ and0) (ne_amap_atb : amap ≠ atb) (ne_and0_atb : and0 ≠ atb) (g_and0 : n0 ≤ and0) :
    MetFree l (⟨"java/util/HashSet", "add", "(Ljava/lang/Object;)Z"⟩ : MethodName) (head1 (Jvm.Cond.code (⟨"java/util/HashSet", "add", "(Ljava/lang/Object;)Z"⟩ : MethodName) jdk_93_method_10_code 2 (some .boolean) :: ws) ({ frames := 3, cells := 0, slots := 0, locals := 51 } : Room)) (fun a U => a = #[(.ref aset), .null] ∧ Z.Warmed39 U.vm ∧ U.heap = h0) (fun _ _ _ _ _ => True) (fun _ U o U' => ∃ v L, o = .returned v ∧ Q12b Z aset atb and0 kt amap apr h0 n0 v U'.heap L ∧ FrameEnd U o U' L ({ frames := 3, cells := 0, slots := 0, locals := 51 } : Room).cells ({ frames := 3, cells := 0, slots := 0, locals := 51 } : Room).slots) := by
  refine MetFree.of_bodySF (plainFor_of_name pn_12) hisR ?_
  intro p e s m args below meth c s₁ Bd hml0 hP hK
  obtain ⟨rfl, hZ, hh⟩ := hP
  have hx := Bd.exec
  have hby := Bd.bytes
  have hml : c.maxLocals = 2 := hml0
  have hown : s.vm.findClass "java/util/HashSet" = some m.cls := findClass_of_methodNamed Bd.named
  have X0 : Stand p l e ({ frames := 3, cells := 0, slots := 0, locals := 51 } : Room) s m #[(.ref aset), .null] below meth c s₁ [] 0 0 := Stand.of_body Bd
  have e0 : s₁.heap = h0 := by rw [← hh, Bd.state]; rfl
  have N0 := Fr.nil n0
  have pre0 : ∀ t, Steps p.tables e below (s₁.setTop (mkF m 0 #[.val (.ref aset), .val .null] [])) t → Steps p.tables e below (s₁.setTop (entryFrame m #[(.ref aset), .null] 2)) t := fun t k => castTop (ef_12n m aset) k
  have K0 : Keep h0 h0 [and0] := Keep.refl h0 _
  obtain ⟨T1, X1, e1, st1⟩ := getF X0 hx hZ hown (host := "") (Or.inl (hw _ (List.mem_of_getElem? (i := 45) rfl))) Via.refl e0 F_aset_map (g := (mkF m 1 #[.val (.ref aset), .val .null] [(.ref aset)])) rfl rfl (hb hby d12_1)
  obtain ⟨T2, X2, e2, st2⟩ := getS2 X1 hx hZ hown (host := "") (Or.inl (hw _ (List.mem_of_getElem? (i := 105) rfl))) Via.refl e1 S_PRESENT (g := (mkF m 5 #[.val (.ref aset), .val .null] [.null, (.ref amap)])) rfl (hb hby d12_5)
  obtain ⟨cq3, kq3, q3a, q3b, q3c⟩ := isOf hZ e2 E_amap
  obtain ⟨_, _, ⟨T3, L3, k3, n3⟩, -, X3, ⟨Lc3, hQ3, l3, y3, z3⟩, st3⟩ := X2.virtualBack hx (y := (⟨"java/util/HashMap", "put", "(Ljava/lang/Object;Ljava/lang/Object;)Ljava/lang/Object;"⟩ : MethodName)) (z := (⟨"java/util/HashMap", "put", "(Ljava/lang/Object;Ljava/lang/Object;)Ljava/lang/Object;"⟩ : MethodName)) hown (mvT hZ (hw _ (List.mem_of_getElem? (i := 106) rfl))) (mvT hZ (hw _ (List.mem_of_getElem? (i := 107) rfl))) (notFace_of_selects (args := #[]) (mvT hZ (hw _ (List.mem_of_getElem? (i := 109) rfl)))) (mvT hZ (hw _ (List.mem_of_getElem? (i := 109) rfl))) (mvT hZ (hw _ (List.mem_of_getElem? (i := 108) rfl))) (by decide) (backOf (W := 0) (rm13b l Z a0 hw [] amap apr atb and0 kt h0 n0 Z0 E_amap F_amap_table F_amap_threshold F_amap_modCount F_amap_size F_amap_loadFactor E_and0 F_and0_hash F_and0_key F_and0_value F_and0_next V_atb Ov_atb ne_amap_and0 ne_amap_atb ne_and0_atb g_and0) hZ (hw _ (List.mem_of_getElem? (i := 110) rfl)) (hw _ (List.mem_of_getElem? (i := 30) rfl)) (by decide) (by decide)) q3a q3c (g := (mkF m 8 #[.val (.ref aset), .val .null] [(.ref apr), .null, (.ref amap)])) rfl (by rw [hml]; rfl) (Steps.refl _) (argsL := [.null, (.ref apr)]) (rest := []) (lenOf pd_5 rfl) rfl (by show 2 * 0 + _ ≤ _; exact Nat.le_of_eq rfl) (hb hby d12_8) (fun _ _ => ⟨rfl, e2, (by decide : 0 + 0 ≤ _), (by decide : 0 + 0 ≤ _)⟩)
  dsimp only [Pt.U, Pt.locs, Pt.cells, Pt.slots] at X3 l3 y3 z3 st3 hQ3
  subst l3 y3 z3
  obtain ⟨rfl, N3q, K3q, t3_0, t3_1, t3_2, t3_3, t3_4⟩ := hQ3
  have N3 := Fr.app N0 N3q
  have K3 : Keep h0 T3.heap [and0] := K0.trans K3q (fun x hx => by simp only [List.mem_cons, List.not_mem_nil, or_false] at hx; rcases hx with rfl <;> first | exact (Or.inl (List.mem_of_getElem? (i := 0) rfl)))
  obtain ⟨fs, hr, hrun, hended, hW, hsame⟩ := X3.leave (v := some (.int (0 : Int32))) (fun h => by rw [Bd.returns] at h; cases h)
  refine ⟨_, _, pre0 _ ?_, hrun, hended, _, _, rfl, ?_, ⟨_, rfl⟩, hW, hsame.mono (by decide) (by decide)⟩
  · show Steps p.tables e below (s₁.setTop (mkF m 0 #[.val (.ref aset), .val .null] [])) _
    refine XS.aloadN X0.here hx rfl (hb hby d12_0) rfl rfl ?_
    show Steps p.tables e below (s₁.setTop (mkF m 1 #[.val (.ref aset), .val .null] [(.ref aset)])) _
    refine st1 _ ?_
    refine XS.aloadN X1.here hx rfl (hb hby d12_4) rfl rfl ?_
    show Steps p.tables e below (T1.setTop (mkF m 5 #[.val (.ref aset), .val .null] [.null, (.ref amap)])) _
    refine st2 _ ?_
    show Steps p.tables e below (T2.setTop (mkF m 8 #[.val (.ref aset), .val .null] [(.ref apr), .null, (.ref amap)])) _
    refine st3.trans ?_
    show Steps p.tables e below (T3.setTop (mkF m 11 #[.val (.ref aset), .val .null] [(.ref apr)])) _
    refine XS.ifnonnullYes X3.here hx rfl (pc0 := 11) (pc' := 18) rfl (hb hby d12_11) rfl (by decide) (by decide) ?_
    refine XS.iconst X3.here hx rfl (hb hby d12_18) ?_
    show Steps p.tables e below (T3.setTop (mkF m 19 #[.val (.ref aset), .val .null] [(.int (0 : Int32))])) _
    exact retN X3 hx (t := .boolean) Bd.returns (by simp) (hb hby d12_19) hr
  · show Q12b Z aset atb and0 kt amap apr h0 n0 _ T3.heap _
    exact ⟨rfl, N3, K3, t3_0, t3_1, t3_2, t3_3, t3_4⟩
theorem ef_20 (m : MethodId) (x0 : Addr) (x1 : Int64) (x2 : Int64) : entryFrame m #[(.ref x0), (.long x1), (.long x2)] 5 = mkF m 0 #[.val (.ref x0), .val (.long x1), .second, .val (.long x2), .second] [] := by first | (simp [entryFrame, mkF, argsToLocals, Value.category]; done) | rfl
def Q20 (Z : State) (ar : Addr)  (h0 : Heap) (n0 : Nat) (v : Option Value) (h : Heap) (L : List Loc) : Prop := v = some (.int (1 : Int32)) ∧ Fr n0 L ∧ Keep h0 h []
set_option maxRecDepth 65536 in
set_option maxHeartbeats 40000000 in
theorem rm20 (l : Launch) (Z : State) (a0 : Array Value) (hw : ∀ d ∈ tables_1, d.before a0 Z = true) (ws : List Jvm.Cond) (ar : Addr)  (h0 : Heap) (n0 : Nat) (Z0 : n0 ≤ h0.size) (E_ar : Exa Z h0 ar "com/example/kindgen/kindgen/core/document/RecordOrder") (F_ar_longBytes : Fld Z h0 ar "com/example/kindgen/kindgen/core/document/RecordOrder" "longBytes" "J" (.long (0 : Int64))) :
    MetFree l (⟨"com/example/kindgen/kindgen/core/document/RecordOrder", "isLong", "(JJ)Z"⟩ : MethodName) (head1 (Jvm.Cond.code (⟨"com/example/kindgen/kindgen/core/document/RecordOrder", "isLong", "(JJ)Z"⟩ : MethodName) prog_72_method_7_code 5 (some .boolean) :: ws) ({ frames := 0, cells := 0, slots := 0, locals := 0 } : Room)) (fun a U => a = #[(.ref ar), (.long (0 : Int64)), (.long (0 : Int64))] ∧ Z.Warmed39 U.vm ∧ U.heap = h0) (fun _ _ _ _ _ => True) (fun _ U o U' => ∃ v L, o = .returned v ∧ Q20 Z ar h0 n0 v U'.heap L ∧ FrameEnd U o U' L ({ frames := 0, cells := 0, slots := 0, locals := 0 } : Room).cells ({ frames := 0, cells := 0, slots := 0, locals := 0 } : Room).slots) := by
  refine MetFree.of_bodySF (plainFor_of_name pn_20) hisR ?_
  intro p e s m args below meth c s₁ Bd hml0 hP hK
  obtain ⟨rfl, hZ, hh⟩ := hP
  have hx := Bd.exec
  have hby := Bd.bytes
  have hown : s.vm.findClass "com/example/kindgen/kindgen/core/document/RecordOrder" = some m.cls := findClass_of_methodNamed Bd.named
  have X0 : Stand p l e ({ frames := 0, cells := 0, slots := 0, locals := 0 } : Room) s m #[(.ref ar), (.long (0 : Int64)), (.long (0 : Int64))] below meth c s₁ [] 0 0 := Stand.of_body Bd
  have e0 : s₁.heap = h0 := by rw [← hh, Bd.state]; rfl
  have N0 := Fr.nil n0
  have pre0 : ∀ t, Steps p.tables e below (s₁.setTop (mkF m 0 #[.val (.ref ar), .val (.long (0 : Int64)), .second, .val (.long (0 : Int64)), .second] [])) t → Steps p.tables e below (s₁.setTop (entryFrame m #[(.ref ar), (.long (0 : Int64)), (.long (0 : Int64))] 5)) t := fun t k => castTop (ef_20 m ar (0 : Int64) (0 : Int64)) k
  have K0 : Keep h0 h0 [] := Keep.refl h0 _
  obtain ⟨T1, X1, e1, st1⟩ := getF X0 hx hZ hown (host := "") (Or.inl (hw _ (List.mem_of_getElem? (i := 56) rfl))) Via.refl e0 F_ar_longBytes (g := (mkF m 4 #[.val (.ref ar), .val (.long (0 : Int64)), .second, .val (.long (0 : Int64)), .second] [(.ref ar), (.long (0 : Int64))])) rfl rfl (hb hby d20_4)
  obtain ⟨fs, hr, hrun, hended, hW, hsame⟩ := X1.leave (v := some (.int (1 : Int32))) (fun h => by rw [Bd.returns] at h; cases h)
  refine ⟨_, _, pre0 _ ?_, hrun, hended, _, _, rfl, ?_, ⟨_, rfl⟩, hW, hsame.mono (by decide) (by decide)⟩
  · show Steps p.tables e below (s₁.setTop (mkF m 0 #[.val (.ref ar), .val (.long (0 : Int64)), .second, .val (.long (0 : Int64)), .second] [])) _
    refine XS.lloadN X0.here hx rfl (hb hby d20_0) rfl ?_
    refine XS.lloadN X0.here hx rfl (hb hby d20_1) rfl ?_
    show Steps p.tables e below (s₁.setTop (mkF m 2 #[.val (.ref ar), .val (.long (0 : Int64)), .second, .val (.long (0 : Int64)), .second] [(.long (0 : Int64)), (.long (0 : Int64))])) _
    refine XS.lsub X0.here hx rfl (hb hby d20_2) rfl ?_
    refine XS.aloadN X0.here hx rfl (hb hby d20_3) rfl rfl ?_
    show Steps p.tables e below (s₁.setTop (mkF m 4 #[.val (.ref ar), .val (.long (0 : Int64)), .second, .val (.long (0 : Int64)), .second] [(.ref ar), (.long (0 : Int64))])) _
    refine st1 _ ?_
    show Steps p.tables e below (T1.setTop (mkF m 7 #[.val (.ref ar), .val (.long (0 : Int64)), .second, .val (.long (0 : Int64)), .second] [(.long (0 : Int64)), (.long (0 : Int64))])) _
    refine XS.lcmp X1.here hx rfl (hb hby d20_7) rfl ?_
    show Steps p.tables e below (T1.setTop (mkF m 8 #[.val (.ref ar), .val (.long (0 : Int64)), .second, .val (.long (0 : Int64)), .second] [(.int (lcmpW (0 : Int64) (0 : Int64)))])) _
    refine XS.ifNo X1.here hx rfl (hb hby d20_8) rfl ((if0 _ _).trans (flt (fun q => (by decide : ¬ ((0 : Int64) < (0 : Int64))) ((lw_lt (0 : Int64) (0 : Int64)).mp q))).1) ?_
    refine XS.iconst X1.here hx rfl (hb hby d20_11) ?_
    refine XS.goto X1.here hx rfl (pc0 := 12) (pc' := 16) rfl (hb hby d20_12) (by decide) (by decide) ?_
    show Steps p.tables e below (T1.setTop (mkF m 16 #[.val (.ref ar), .val (.long (0 : Int64)), .second, .val (.long (0 : Int64)), .second] [(.int (1 : Int32))])) _
    exact retN X1 hx (t := .boolean) Bd.returns (by simp) (hb hby d20_16) hr
  · show Q20 Z ar h0 n0 _ T1.heap _
    rw [e1]
    exact ⟨rfl, N0, K0⟩
theorem ef_11 (m : MethodId) (x0 : Addr) (x1 : Int64) : entryFrame m #[(.ref x0), (.long x1)] 4 = mkF m 0 #[.val (.ref x0), .val (.long x1), .second, .unset] [] := by first | (simp [entryFrame, mkF, argsToLocals, Value.category]; done) | rfl
def Q11a1 (Z : State) (ar : Addr) (aset : Addr) (ahd : Addr) (alv : Addr) (kl : ClassId) (aL : Addr) (nr : Int32) (ls : Int32) (kp : Int32) (ou : Int32) (sd : Int32) (u0 : Value) (hc : Int32) (h0 : Heap) (n0 : Nat) (v : Option Value) (h : Heap) (L : List Loc) : Prop := v = none ∧ Fr n0 L ∧ Keep h0 h [ar] ∧ Exa Z h ar "com/example/kindgen/kindgen/core/document/RecordOrder" ∧ Fld Z h ar "com/example/kindgen/kindgen/core/document/RecordOrder" "outOfOrder" "Ljava/util/Set;" (.ref aset) ∧ Fld Z h ar "com/example/kindgen/kindgen/core/document/RecordOrder" "held" "[I" (.ref ahd) ∧ Fld Z h ar "com/example/kindgen/kindgen/core/document/RecordOrder" "levels" "[Lcom/example/kindgen/kindgen/core/document/RecordOrder$Level;" (.ref alv) ∧ Fld Z h ar "com/example/kindgen/kindgen/core/document/RecordOrder" "longBytes" "J" (.long (0 : Int64)) ∧ Fld Z h ar "com/example/kindgen/kindgen/core/document/RecordOrder" "depth" "I" (.int (1 : Int32)) ∧ Fld Z h ar "com/example/kindgen/kindgen/core/document/RecordOrder" "started" "I" (.int sd) ∧ Fld Z h ar "com/example/kindgen/kindgen/core/document/RecordOrder" "heldCount" "I" (.int hc)
set_option maxRecDepth 65536 in
set_option maxHeartbeats 40000000 in
theorem rm11a1 (l : Launch) (Z : State) (a0 : Array Value) (hw : ∀ d ∈ tables_1, d.before a0 Z = true) (ws : List Jvm.Cond) (ar : Addr) (aset : Addr) (ahd : Addr) (alv : Addr) (kl : ClassId) (aL : Addr) (nr : Int32) (ls : Int32) (kp : Int32) (ou : Int32) (sd : Int32) (u0 : Value) (hc : Int32) (h0 : Heap) (n0 : Nat) (Z0 : n0 ≤ h0.size) (ho : ou = 0) (E_ar : Exa Z h0 ar "com/example/kindgen/kindgen/core/document/RecordOrder") (F_ar_outOfOrder : Fld Z h0 ar "com/example/kindgen/kindgen/core/document/RecordOrder" "outOfOrder" "Ljava/util/Set;" (.ref aset)) (F_ar_held : Fld Z h0 ar "com/example/kindgen/kindgen/core/document/RecordOrder" "held" "[I" (.ref ahd)) (F_ar_levels : Fld Z h0 ar "com/example/kindgen/kindgen/core/document/RecordOrder" "levels" "[Lcom/example/kindgen/kindgen/core/document/RecordOrder$Level;" (.ref alv)) (F_ar_longBytes : Fld Z h0 ar "com/example/kindgen/kindgen/core/document/RecordOrder" "longBytes" "J" (.long (0 : Int64))) (F_ar_depth : Fld Z h0 ar "com/example/kindgen/kindgen/core/document/RecordOrder" "depth" "I" (.int (2 : Int32))) (F_ar_started : Fld Z h0 ar "com/example/kindgen/kindgen/core/document/RecordOrder" "started" "I" (.int sd)) (F_ar_heldCount : Fld Z h0 ar "com/example/kindgen/kindgen/core/document/RecordOrder" "heldCount" "I" (.int hc)) (E_aL : Exa Z h0 aL "com/example/kindgen/kindgen/core/document/RecordOrder$Level") (F_aL_number : Fld Z h0 aL "com/example/kindgen/kindgen/core/document/RecordOrder$Level" "number" "I" (.int nr)) (F_aL_record : Fld Z h0 aL "com/example/kindgen/kindgen/core/document/RecordOrder$Level" "record" "Lcom/example/kindgen/kindgen/runtime/RecordShape;" .null) (F_aL_start : Fld Z h0 aL "com/example/kindgen/kindgen/core/document/RecordOrder$Level" "start" "J" (.long (0 : Int64))) (F_aL_lastDeclared : Fld Z h0 aL "com/example/kindgen/kindgen/core/document/RecordOrder$Level" "lastDeclared" "I" (.int ls)) (F_aL_kept : Fld Z h0 aL "com/example/kindgen/kindgen/core/document/RecordOrder$Level" "kept" "Z" (.int kp)) (F_aL_out : Fld Z h0 aL "com/example/kindgen/kindgen/core/document/RecordOrder$Level" "out" "Z" (.int ou)) (V_alv : Arv Z h0 alv kl (.object "com/example/kindgen/kindgen/core/document/RecordOrder$Level") (16 : Int32) [u0, (.ref aL), .null, .null, .null, .null, .null, .null, .null, .null, .null, .null, .null, .null, .null, .null] .null) (Ov_alv : Ovr Z kl "com/example/kindgen/kindgen/core/document/RecordOrder$Level") (ne_ar_aL : ar ≠ aL) (ne_ar_alv : ar ≠ alv) (ne_aL_alv : aL ≠ alv) (g_ar : n0 ≤ ar) :
    MetFree l (⟨"com/example/kindgen/kindgen/core/document/RecordOrder", "end", "(J)V"⟩ : MethodName) (head1 (Jvm.Cond.code (⟨"com/example/kindgen/kindgen/core/document/RecordOrder", "end", "(J)V"⟩ : MethodName) prog_72_method_6_code 4 none :: ws) ({ frames := 0, cells := 0, slots := 0, locals := 0 } : Room)) (fun a U => a = #[(.ref ar), (.long (0 : Int64))] ∧ Z.Warmed39 U.vm ∧ U.heap = h0) (fun _ _ _ _ _ => True) (fun _ U o U' => ∃ v L, o = .returned v ∧ Q11a1 Z ar aset ahd alv kl aL nr ls kp ou sd u0 hc h0 n0 v U'.heap L ∧ FrameEnd U o U' L ({ frames := 0, cells := 0, slots := 0, locals := 0 } : Room).cells ({ frames := 0, cells := 0, slots := 0, locals := 0 } : Room).slots) := by
  refine MetFree.of_bodySF (plainFor_of_name pn_11) hisR ?_
  intro p e s m args below meth c s₁ Bd hml0 hP hK
  obtain ⟨rfl, hZ, hh⟩ := hP
  have hx := Bd.exec
  have hby := Bd.bytes
  have hown : s.vm.findClass "com/example/kindgen/kindgen/core/document/RecordOrder" = some m.cls := findClass_of_methodNamed Bd.named
  have X0 : Stand p l e ({ frames := 0, cells := 0, slots := 0, locals := 0 } : Room) s m #[(.ref ar), (.long (0 : Int64))] below meth c s₁ [] 0 0 := Stand.of_body Bd
  have e0 : s₁.heap = h0 := by rw [← hh, Bd.state]; rfl
  have N0 := Fr.nil n0
  have pre0 : ∀ t, Steps p.tables e below (s₁.setTop (mkF m 0 #[.val (.ref ar), .val (.long (0 : Int64)), .second, .unset] [])) t → Steps p.tables e below (s₁.setTop (entryFrame m #[(.ref ar), (.long (0 : Int64))] 4)) t := fun t k => castTop (ef_11 m ar (0 : Int64)) k
  have K0 : Keep h0 h0 [ar] := Keep.refl h0 _
  obtain ⟨T1, X1, e1, st1⟩ := getF X0 hx hZ hown (host := "") (Or.inl (hw _ (List.mem_of_getElem? (i := 63) rfl))) Via.refl e0 F_ar_depth (g := (mkF m 2 #[.val (.ref ar), .val (.long (0 : Int64)), .second, .unset] [(.ref ar), (.ref ar)])) rfl rfl (hb hby d11_2)
  obtain ⟨T2, h2, X2, e2, W2, st2⟩ := putF X1 hx hZ hown (host := "") (Or.inl (hw _ (List.mem_of_getElem? (i := 63) rfl))) Via.refl e1 F_ar_depth E_ar (Or.inl (hw _ (List.mem_of_getElem? (i := 64) rfl))) (hw _ (List.mem_of_getElem? (i := 1) rfl)) (ty := .int) (by decide) rfl rfl (g := (mkF m 7 #[.val (.ref ar), .val (.long (0 : Int64)), .second, .unset] [(.int (1 : Int32)), (.ref ar)])) rfl rfl (hb hby d11_7)
  have c2_E_ar := E_ar.wr W2
  have c2_F_ar_outOfOrder := F_ar_outOfOrder.other W2 (Or.inr (slot_ne (Or.inr (hw _ (List.mem_of_getElem? (i := 48) rfl))) (Or.inl (hw _ (List.mem_of_getElem? (i := 64) rfl))) (by decide) (t := (.object "java/util/Set")) (t' := .int) (by decide) (by decide)))
  have c2_F_ar_held := F_ar_held.other W2 (Or.inr (slot_ne (Or.inl (hw _ (List.mem_of_getElem? (i := 51) rfl))) (Or.inl (hw _ (List.mem_of_getElem? (i := 64) rfl))) (by decide) (t := (.array .int)) (t' := .int) (by decide) (by decide)))
  have c2_F_ar_levels := F_ar_levels.other W2 (Or.inr (slot_ne (Or.inl (hw _ (List.mem_of_getElem? (i := 55) rfl))) (Or.inl (hw _ (List.mem_of_getElem? (i := 64) rfl))) (by decide) (t := (.array (.object "com/example/kindgen/kindgen/core/document/RecordOrder$Level"))) (t' := .int) (by decide) (by decide)))
  have c2_F_ar_longBytes := F_ar_longBytes.other W2 (Or.inr (slot_ne (Or.inr (hw _ (List.mem_of_getElem? (i := 57) rfl))) (Or.inl (hw _ (List.mem_of_getElem? (i := 64) rfl))) (by decide) (t := .long) (t' := .int) (by decide) (by decide)))
  have c2_F_ar_depth := F_ar_depth.same W2
  have c2_F_ar_started := F_ar_started.other W2 (Or.inr (slot_ne (Or.inl (hw _ (List.mem_of_getElem? (i := 73) rfl))) (Or.inl (hw _ (List.mem_of_getElem? (i := 64) rfl))) (by decide) (t := .int) (t' := .int) (by decide) (by decide)))
  have c2_F_ar_heldCount := F_ar_heldCount.other W2 (Or.inr (slot_ne (Or.inl (hw _ (List.mem_of_getElem? (i := 165) rfl))) (Or.inl (hw _ (List.mem_of_getElem? (i := 64) rfl))) (by decide) (t := .int) (t' := .int) (by decide) (by decide)))
  have c2_F_aL_out := F_aL_out.other W2 (Or.inl (Ne.symm ne_ar_aL))
  have c2_V_alv := V_alv.other W2 (Ne.symm ne_ar_alv)
  have N2 := Fr.snoc X2 N0 g_ar
  have K2 : Keep h0 h2 [ar] := K0.wr W2 (Or.inl (List.mem_of_getElem? (i := 0) rfl))
  obtain ⟨T3, X3, e3, st3⟩ := getF X2 hx hZ hown (host := "") (Or.inl (hw _ (List.mem_of_getElem? (i := 54) rfl))) Via.refl e2 c2_F_ar_levels (g := (mkF m 11 #[.val (.ref ar), .val (.long (0 : Int64)), .second, .unset] [(.ref ar)])) rfl rfl (hb hby d11_11)
  obtain ⟨T4, X4, e4, st4⟩ := getF X3 hx hZ hown (host := "") (Or.inl (hw _ (List.mem_of_getElem? (i := 63) rfl))) Via.refl e3 c2_F_ar_depth (g := (mkF m 15 #[.val (.ref ar), .val (.long (0 : Int64)), .second, .unset] [(.ref ar), (.ref alv)])) rfl rfl (hb hby d11_15)
  obtain ⟨cl_5, Ar_5, -, S_5, N_5, H_5, -⟩ := id c2_V_alv
  have hin_5 : ¬ ((1 : Int32) < 0 ∨ cl_5.slots.size ≤ ((1 : Int32)).toNatClampNeg) := inb_of S_5 ⟨by decide, by decide⟩
  have hat_5 : cl_5.slots[((1 : Int32)).toNatClampNeg]? = some (.ref aL) := Has.at H_5 hin_5 rfl
  obtain ⟨T6, X6, e6, st6⟩ := own_getFR X4 hx hZ hown (hw _ (List.mem_of_getElem? (i := 84) rfl)) e4 c2_F_aL_out (g := (mkF m 21 #[.val (.ref ar), .val (.long (0 : Int64)), .second, .val (.ref aL)] [(.ref aL)])) rfl rfl (hb hby d11_21)
  obtain ⟨T7, X7, e7, st7⟩ := own_getFR X6 hx hZ hown (hw _ (List.mem_of_getElem? (i := 84) rfl)) e6 c2_F_aL_out (g := (mkF m 42 #[.val (.ref ar), .val (.long (0 : Int64)), .second, .val (.ref aL)] [(.ref aL)])) rfl rfl (hb hby d11_42)
  obtain ⟨fs, hr, hrun, hended, hW, hsame⟩ := X7.leave (v := none) (fun _ => rfl)
  refine ⟨_, _, pre0 _ ?_, hrun, hended, _, _, rfl, ?_, ⟨_, rfl⟩, hW, hsame.mono (by decide) (by decide)⟩
  · show Steps p.tables e below (s₁.setTop (mkF m 0 #[.val (.ref ar), .val (.long (0 : Int64)), .second, .unset] [])) _
    refine XS.aloadN X0.here hx rfl (hb hby d11_0) rfl rfl ?_
    show Steps p.tables e below (s₁.setTop (mkF m 1 #[.val (.ref ar), .val (.long (0 : Int64)), .second, .unset] [(.ref ar)])) _
    refine XS.dup X0.here hx rfl (hb hby d11_1) rfl rfl ?_
    show Steps p.tables e below (s₁.setTop (mkF m 2 #[.val (.ref ar), .val (.long (0 : Int64)), .second, .unset] [(.ref ar), (.ref ar)])) _
    refine st1 _ ?_
    refine XS.iconst X1.here hx rfl (hb hby d11_5) ?_
    show Steps p.tables e below (T1.setTop (mkF m 6 #[.val (.ref ar), .val (.long (0 : Int64)), .second, .unset] [(.int (1 : Int32)), (.int (2 : Int32)), (.ref ar)])) _
    refine XS.isub X1.here hx rfl (hb hby d11_6) rfl ?_
    show Steps p.tables e below (T1.setTop (mkF m 7 #[.val (.ref ar), .val (.long (0 : Int64)), .second, .unset] [(.int (1 : Int32)), (.ref ar)])) _
    refine st2 _ ?_
    refine XS.aloadN X2.here hx rfl (hb hby d11_10) rfl rfl ?_
    show Steps p.tables e below (T2.setTop (mkF m 11 #[.val (.ref ar), .val (.long (0 : Int64)), .second, .unset] [(.ref ar)])) _
    refine st3 _ ?_
    refine XS.aloadN X3.here hx rfl (hb hby d11_14) rfl rfl ?_
    show Steps p.tables e below (T3.setTop (mkF m 15 #[.val (.ref ar), .val (.long (0 : Int64)), .second, .unset] [(.ref ar), (.ref alv)])) _
    refine st4 _ ?_
    show Steps p.tables e below (T4.setTop (mkF m 18 #[.val (.ref ar), .val (.long (0 : Int64)), .second, .unset] [(.int (1 : Int32)), (.ref alv)])) _
    refine X4.aaload hx (j := (1 : Int32)) (v := (.ref aL)) (by rw [e4]; exact Ar_5.1) (State.isArrayOf_alike hZ.alike Ar_5.2.1) rfl Ar_5.2.2 hin_5 hat_5 (g := (mkF m 18 #[.val (.ref ar), .val (.long (0 : Int64)), .second, .unset] [(.int (1 : Int32)), (.ref alv)])) rfl rfl (hb hby d11_18) _ ?_
    show Steps p.tables e below (T4.setTop (mkF m 19 #[.val (.ref ar), .val (.long (0 : Int64)), .second, .unset] [(.ref aL)])) _
    refine XS.astoreN X4.here hx rfl (hb hby d11_19) rfl rfl (l' := #[.val (.ref ar), .val (.long (0 : Int64)), .second, .val (.ref aL)]) rfl ?_
    refine XS.aloadN X4.here hx rfl (hb hby d11_20) rfl rfl ?_
    show Steps p.tables e below (T4.setTop (mkF m 21 #[.val (.ref ar), .val (.long (0 : Int64)), .second, .val (.ref aL)] [(.ref aL)])) _
    refine st6 _ ?_
    show Steps p.tables e below (T6.setTop (mkF m 24 #[.val (.ref ar), .val (.long (0 : Int64)), .second, .val (.ref aL)] [(.int ou)])) _
    refine XS.ifYes X6.here hx rfl (pc0 := 24) (pc' := 41) rfl (hb hby d11_24) rfl ((if0 _ _).trans (teq ho).1) (by decide) (by decide) ?_
    refine XS.aloadN X6.here hx rfl (hb hby d11_41) rfl rfl ?_
    show Steps p.tables e below (T6.setTop (mkF m 42 #[.val (.ref ar), .val (.long (0 : Int64)), .second, .val (.ref aL)] [(.ref aL)])) _
    refine st7 _ ?_
    show Steps p.tables e below (T7.setTop (mkF m 45 #[.val (.ref ar), .val (.long (0 : Int64)), .second, .val (.ref aL)] [(.int ou)])) _
    refine XS.ifYes X7.here hx rfl (pc0 := 45) (pc' := 150) rfl (hb hby d11_45) rfl ((if0 _ _).trans (teq ho).1) (by decide) (by decide) ?_
    show Steps p.tables e below (T7.setTop (mkF m 150 #[.val (.ref ar), .val (.long (0 : Int64)), .second, .val (.ref aL)] [])) _
    exact X7.returnOut hx Bd.returns (hb hby d11_150) hr
  · show Q11a1 Z ar aset ahd alv kl aL nr ls kp ou sd u0 hc h0 n0 _ T7.heap _
    rw [e7]
    exact ⟨rfl, N2, K2, c2_E_ar, c2_F_ar_outOfOrder, c2_F_ar_held, c2_F_ar_levels, c2_F_ar_longBytes, c2_F_ar_depth, c2_F_ar_started, c2_F_ar_heldCount⟩
def Q11a0 (Z : State) (ar : Addr) (aset : Addr) (ahd : Addr) (alv : Addr) (kl : ClassId) (aL : Addr) (nr : Int32) (ls : Int32) (kp : Int32) (ou : Int32) (sd : Int32) (u1 : Value) (hc : Int32) (h0 : Heap) (n0 : Nat) (v : Option Value) (h : Heap) (L : List Loc) : Prop := v = none ∧ Fr n0 L ∧ Keep h0 h [ar] ∧ Exa Z h ar "com/example/kindgen/kindgen/core/document/RecordOrder" ∧ Fld Z h ar "com/example/kindgen/kindgen/core/document/RecordOrder" "outOfOrder" "Ljava/util/Set;" (.ref aset) ∧ Fld Z h ar "com/example/kindgen/kindgen/core/document/RecordOrder" "held" "[I" (.ref ahd) ∧ Fld Z h ar "com/example/kindgen/kindgen/core/document/RecordOrder" "levels" "[Lcom/example/kindgen/kindgen/core/document/RecordOrder$Level;" (.ref alv) ∧ Fld Z h ar "com/example/kindgen/kindgen/core/document/RecordOrder" "longBytes" "J" (.long (0 : Int64)) ∧ Fld Z h ar "com/example/kindgen/kindgen/core/document/RecordOrder" "depth" "I" (.int (0 : Int32)) ∧ Fld Z h ar "com/example/kindgen/kindgen/core/document/RecordOrder" "started" "I" (.int sd) ∧ Fld Z h ar "com/example/kindgen/kindgen/core/document/RecordOrder" "heldCount" "I" (.int hc)
set_option maxRecDepth 65536 in
set_option maxHeartbeats 40000000 in
theorem rm11a0 (l : Launch) (Z : State) (a0 : Array Value) (hw : ∀ d ∈ tables_1, d.before a0 Z = true) (ws : List Jvm.Cond) (ar : Addr) (aset : Addr) (ahd : Addr) (alv : Addr) (kl : ClassId) (aL : Addr) (nr : Int32) (ls : Int32) (kp : Int32) (ou : Int32) (sd : Int32) (u1 : Value) (hc : Int32) (h0 : Heap) (n0 : Nat) (Z0 : n0 ≤ h0.size) (ho : ou = 0) (E_ar : Exa Z h0 ar "com/example/kindgen/kindgen/core/document/RecordOrder") (F_ar_outOfOrder : Fld Z h0 ar "com/example/kindgen/kindgen/core/document/RecordOrder" "outOfOrder" "Ljava/util/Set;" (.ref aset)) (F_ar_held : Fld Z h0 ar "com/example/kindgen/kindgen/core/document/RecordOrder" "held" "[I" (.ref ahd)) (F_ar_levels : Fld Z h0 ar "com/example/kindgen/kindgen/core/document/RecordOrder" "levels" "[Lcom/example/kindgen/kindgen/core/document/RecordOrder$Level;" (.ref alv)) (F_ar_longBytes : Fld Z h0 ar "com/example/kindgen/kindgen/core/document/RecordOrder" "longBytes" "J" (.long (0 : Int64))) (F_ar_depth : Fld Z h0 ar "com/example/kindgen/kindgen/core/document/RecordOrder" "depth" "I" (.int (1 : Int32))) (F_ar_started : Fld Z h0 ar "com/example/kindgen/kindgen/core/document/RecordOrder" "started" "I" (.int sd)) (F_ar_heldCount : Fld Z h0 ar "com/example/kindgen/kindgen/core/document/RecordOrder" "heldCount" "I" (.int hc)) (E_aL : Exa Z h0 aL "com/example/kindgen/kindgen/core/document/RecordOrder$Level") (F_aL_number : Fld Z h0 aL "com/example/kindgen/kindgen/core/document/RecordOrder$Level" "number" "I" (.int nr)) (F_aL_record : Fld Z h0 aL "com/example/kindgen/kindgen/core/document/RecordOrder$Level" "record" "Lcom/example/kindgen/kindgen/runtime/RecordShape;" .null) (F_aL_start : Fld Z h0 aL "com/example/kindgen/kindgen/core/document/RecordOrder$Level" "start" "J" (.long (0 : Int64))) (F_aL_lastDeclared : Fld Z h0 aL "com/example/kindgen/kindgen/core/document/RecordOrder$Level" "lastDeclared" "I" (.int ls)) (F_aL_kept : Fld Z h0 aL "com/example/kindgen/kindgen/core/document/RecordOrder$Level" "kept" "Z" (.int kp)) (F_aL_out : Fld Z h0 aL "com/example/kindgen/kindgen/core/document/RecordOrder$Level" "out" "Z" (.int ou)) (V_alv : Arv Z h0 alv kl (.object "com/example/kindgen/kindgen/core/document/RecordOrder$Level") (16 : Int32) [(.ref aL), u1, .null, .null, .null, .null, .null, .null, .null, .null, .null, .null, .null, .null, .null, .null] .null) (Ov_alv : Ovr Z kl "com/example/kindgen/kindgen/core/document/RecordOrder$Level") (ne_ar_aL : ar ≠ aL) (ne_ar_alv : ar ≠ alv) (ne_aL_alv : aL ≠ alv) (g_ar : n0 ≤ ar) :
    MetFree l (⟨"com/example/kindgen/kindgen/core/document/RecordOrder", "end", "(J)V"⟩ : MethodName) (head1 (Jvm.Cond.code (⟨"com/example/kindgen/kindgen/core/document/RecordOrder", "end", "(J)V"⟩ : MethodName) prog_72_method_6_code 4 none :: ws) ({ frames := 0, cells := 0, slots := 0, locals := 0 } : Room)) (fun a U => a = #[(.ref ar), (.long (0 : Int64))] ∧ Z.Warmed39 U.vm ∧ U.heap = h0) (fun _ _ _ _ _ => True) (fun _ U o U' => ∃ v L, o = .returned v ∧ Q11a0 Z ar aset ahd alv kl aL nr ls kp ou sd u1 hc h0 n0 v U'.heap L ∧ FrameEnd U o U' L ({ frames := 0, cells := 0, slots := 0, locals := 0 } : Room).cells ({ frames := 0, cells := 0, slots := 0, locals := 0 } : Room).slots) := by
  refine MetFree.of_bodySF (plainFor_of_name pn_11) hisR ?_
  intro p e s m args below meth c s₁ Bd hml0 hP hK
  obtain ⟨rfl, hZ, hh⟩ := hP
  have hx := Bd.exec
  have hby := Bd.bytes
  have hown : s.vm.findClass "com/example/kindgen/kindgen/core/document/RecordOrder" = some m.cls := findClass_of_methodNamed Bd.named
  have X0 : Stand p l e ({ frames := 0, cells := 0, slots := 0, locals := 0 } : Room) s m #[(.ref ar), (.long (0 : Int64))] below meth c s₁ [] 0 0 := Stand.of_body Bd
  have e0 : s₁.heap = h0 := by rw [← hh, Bd.state]; rfl
  have N0 := Fr.nil n0
  have pre0 : ∀ t, Steps p.tables e below (s₁.setTop (mkF m 0 #[.val (.ref ar), .val (.long (0 : Int64)), .second, .unset] [])) t → Steps p.tables e below (s₁.setTop (entryFrame m #[(.ref ar), (.long (0 : Int64))] 4)) t := fun t k => castTop (ef_11 m ar (0 : Int64)) k
  have K0 : Keep h0 h0 [ar] := Keep.refl h0 _
  obtain ⟨T1, X1, e1, st1⟩ := getF X0 hx hZ hown (host := "") (Or.inl (hw _ (List.mem_of_getElem? (i := 63) rfl))) Via.refl e0 F_ar_depth (g := (mkF m 2 #[.val (.ref ar), .val (.long (0 : Int64)), .second, .unset] [(.ref ar), (.ref ar)])) rfl rfl (hb hby d11_2)
  obtain ⟨T2, h2, X2, e2, W2, st2⟩ := putF X1 hx hZ hown (host := "") (Or.inl (hw _ (List.mem_of_getElem? (i := 63) rfl))) Via.refl e1 F_ar_depth E_ar (Or.inl (hw _ (List.mem_of_getElem? (i := 64) rfl))) (hw _ (List.mem_of_getElem? (i := 1) rfl)) (ty := .int) (by decide) rfl rfl (g := (mkF m 7 #[.val (.ref ar), .val (.long (0 : Int64)), .second, .unset] [(.int (0 : Int32)), (.ref ar)])) rfl rfl (hb hby d11_7)
  have c2_E_ar := E_ar.wr W2
  have c2_F_ar_outOfOrder := F_ar_outOfOrder.other W2 (Or.inr (slot_ne (Or.inr (hw _ (List.mem_of_getElem? (i := 48) rfl))) (Or.inl (hw _ (List.mem_of_getElem? (i := 64) rfl))) (by decide) (t := (.object "java/util/Set")) (t' := .int) (by decide) (by decide)))
  have c2_F_ar_held := F_ar_held.other W2 (Or.inr (slot_ne (Or.inl (hw _ (List.mem_of_getElem? (i := 51) rfl))) (Or.inl (hw _ (List.mem_of_getElem? (i := 64) rfl))) (by decide) (t := (.array .int)) (t' := .int) (by decide) (by decide)))
  have c2_F_ar_levels := F_ar_levels.other W2 (Or.inr (slot_ne (Or.inl (hw _ (List.mem_of_getElem? (i := 55) rfl))) (Or.inl (hw _ (List.mem_of_getElem? (i := 64) rfl))) (by decide) (t := (.array (.object "com/example/kindgen/kindgen/core/document/RecordOrder$Level"))) (t' := .int) (by decide) (by decide)))
  have c2_F_ar_longBytes := F_ar_longBytes.other W2 (Or.inr (slot_ne (Or.inr (hw _ (List.mem_of_getElem? (i := 57) rfl))) (Or.inl (hw _ (List.mem_of_getElem? (i := 64) rfl))) (by decide) (t := .long) (t' := .int) (by decide) (by decide)))
  have c2_F_ar_depth := F_ar_depth.same W2
  have c2_F_ar_started := F_ar_started.other W2 (Or.inr (slot_ne (Or.inl (hw _ (List.mem_of_getElem? (i := 73) rfl))) (Or.inl (hw _ (List.mem_of_getElem? (i := 64) rfl))) (by decide) (t := .int) (t' := .int) (by decide) (by decide)))
  have c2_F_ar_heldCount := F_ar_heldCount.other W2 (Or.inr (slot_ne (Or.inl (hw _ (List.mem_of_getElem? (i := 165) rfl))) (Or.inl (hw _ (List.mem_of_getElem? (i := 64) rfl))) (by decide) (t := .int) (t' := .int) (by decide) (by decide)))
  have c2_F_aL_out := F_aL_out.other W2 (Or.inl (Ne.symm ne_ar_aL))
  have c2_V_alv := V_alv.other W2 (Ne.symm ne_ar_alv)
  have N2 := Fr.snoc X2 N0 g_ar
  have K2 : Keep h0 h2 [ar] := K0.wr W2 (Or.inl (List.mem_of_getElem? (i := 0) rfl))
  obtain ⟨T3, X3, e3, st3⟩ := getF X2 hx hZ hown (host := "") (Or.inl (hw _ (List.mem_of_getElem? (i := 54) rfl))) Via.refl e2 c2_F_ar_levels (g := (mkF m 11 #[.val (.ref ar), .val (.long (0 : Int64)), .second, .unset] [(.ref ar)])) rfl rfl (hb hby d11_11)
  obtain ⟨T4, X4, e4, st4⟩ := getF X3 hx hZ hown (host := "") (Or.inl (hw _ (List.mem_of_getElem? (i := 63) rfl))) Via.refl e3 c2_F_ar_depth (g := (mkF m 15 #[.val (.ref ar), .val (.long (0 : Int64)), .second, .unset] [(.ref ar), (.ref alv)])) rfl rfl (hb hby d11_15)
  obtain ⟨cl_5, Ar_5, -, S_5, N_5, H_5, -⟩ := id c2_V_alv
  have hin_5 : ¬ ((0 : Int32) < 0 ∨ cl_5.slots.size ≤ ((0 : Int32)).toNatClampNeg) := inb_of S_5 ⟨by decide, by decide⟩
  have hat_5 : cl_5.slots[((0 : Int32)).toNatClampNeg]? = some (.ref aL) := Has.at H_5 hin_5 rfl
  obtain ⟨T6, X6, e6, st6⟩ := own_getFR X4 hx hZ hown (hw _ (List.mem_of_getElem? (i := 84) rfl)) e4 c2_F_aL_out (g := (mkF m 21 #[.val (.ref ar), .val (.long (0 : Int64)), .second, .val (.ref aL)] [(.ref aL)])) rfl rfl (hb hby d11_21)
  obtain ⟨T7, X7, e7, st7⟩ := own_getFR X6 hx hZ hown (hw _ (List.mem_of_getElem? (i := 84) rfl)) e6 c2_F_aL_out (g := (mkF m 42 #[.val (.ref ar), .val (.long (0 : Int64)), .second, .val (.ref aL)] [(.ref aL)])) rfl rfl (hb hby d11_42)
  obtain ⟨fs, hr, hrun, hended, hW, hsame⟩ := X7.leave (v := none) (fun _ => rfl)
  refine ⟨_, _, pre0 _ ?_, hrun, hended, _, _, rfl, ?_, ⟨_, rfl⟩, hW, hsame.mono (by decide) (by decide)⟩
  · show Steps p.tables e below (s₁.setTop (mkF m 0 #[.val (.ref ar), .val (.long (0 : Int64)), .second, .unset] [])) _
    refine XS.aloadN X0.here hx rfl (hb hby d11_0) rfl rfl ?_
    show Steps p.tables e below (s₁.setTop (mkF m 1 #[.val (.ref ar), .val (.long (0 : Int64)), .second, .unset] [(.ref ar)])) _
    refine XS.dup X0.here hx rfl (hb hby d11_1) rfl rfl ?_
    show Steps p.tables e below (s₁.setTop (mkF m 2 #[.val (.ref ar), .val (.long (0 : Int64)), .second, .unset] [(.ref ar), (.ref ar)])) _
    refine st1 _ ?_
    refine XS.iconst X1.here hx rfl (hb hby d11_5) ?_
    show Steps p.tables e below (T1.setTop (mkF m 6 #[.val (.ref ar), .val (.long (0 : Int64)), .second, .unset] [(.int (1 : Int32)), (.int (1 : Int32)), (.ref ar)])) _
    refine XS.isub X1.here hx rfl (hb hby d11_6) rfl ?_
    show Steps p.tables e below (T1.setTop (mkF m 7 #[.val (.ref ar), .val (.long (0 : Int64)), .second, .unset] [(.int (0 : Int32)), (.ref ar)])) _
    refine st2 _ ?_
    refine XS.aloadN X2.here hx rfl (hb hby d11_10) rfl rfl ?_
    show Steps p.tables e below (T2.setTop (mkF m 11 #[.val (.ref ar), .val (.long (0 : Int64)), .second, .unset] [(.ref ar)])) _
    refine st3 _ ?_
    refine XS.aloadN X3.here hx rfl (hb hby d11_14) rfl rfl ?_
    show Steps p.tables e below (T3.setTop (mkF m 15 #[.val (.ref ar), .val (.long (0 : Int64)), .second, .unset] [(.ref ar), (.ref alv)])) _
    refine st4 _ ?_
    show Steps p.tables e below (T4.setTop (mkF m 18 #[.val (.ref ar), .val (.long (0 : Int64)), .second, .unset] [(.int (0 : Int32)), (.ref alv)])) _
    refine X4.aaload hx (j := (0 : Int32)) (v := (.ref aL)) (by rw [e4]; exact Ar_5.1) (State.isArrayOf_alike hZ.alike Ar_5.2.1) rfl Ar_5.2.2 hin_5 hat_5 (g := (mkF m 18 #[.val (.ref ar), .val (.long (0 : Int64)), .second, .unset] [(.int (0 : Int32)), (.ref alv)])) rfl rfl (hb hby d11_18) _ ?_
    show Steps p.tables e below (T4.setTop (mkF m 19 #[.val (.ref ar), .val (.long (0 : Int64)), .second, .unset] [(.ref aL)])) _
    refine XS.astoreN X4.here hx rfl (hb hby d11_19) rfl rfl (l' := #[.val (.ref ar), .val (.long (0 : Int64)), .second, .val (.ref aL)]) rfl ?_
    refine XS.aloadN X4.here hx rfl (hb hby d11_20) rfl rfl ?_
    show Steps p.tables e below (T4.setTop (mkF m 21 #[.val (.ref ar), .val (.long (0 : Int64)), .second, .val (.ref aL)] [(.ref aL)])) _
    refine st6 _ ?_
    show Steps p.tables e below (T6.setTop (mkF m 24 #[.val (.ref ar), .val (.long (0 : Int64)), .second, .val (.ref aL)] [(.int ou)])) _
    refine XS.ifYes X6.here hx rfl (pc0 := 24) (pc' := 41) rfl (hb hby d11_24) rfl ((if0 _ _).trans (teq ho).1) (by decide) (by decide) ?_
    refine XS.aloadN X6.here hx rfl (hb hby d11_41) rfl rfl ?_
    show Steps p.tables e below (T6.setTop (mkF m 42 #[.val (.ref ar), .val (.long (0 : Int64)), .second, .val (.ref aL)] [(.ref aL)])) _
    refine st7 _ ?_
    show Steps p.tables e below (T7.setTop (mkF m 45 #[.val (.ref ar), .val (.long (0 : Int64)), .second, .val (.ref aL)] [(.int ou)])) _
    refine XS.ifYes X7.here hx rfl (pc0 := 45) (pc' := 150) rfl (hb hby d11_45) rfl ((if0 _ _).trans (teq ho).1) (by decide) (by decide) ?_
    show Steps p.tables e below (T7.setTop (mkF m 150 #[.val (.ref ar), .val (.long (0 : Int64)), .second, .val (.ref aL)] [])) _
    exact X7.returnOut hx Bd.returns (hb hby d11_150) hr
  · show Q11a0 Z ar aset ahd alv kl aL nr ls kp ou sd u1 hc h0 n0 _ T7.heap _
    rw [e7]
    exact ⟨rfl, N2, K2, c2_E_ar, c2_F_ar_outOfOrder, c2_F_ar_held, c2_F_ar_levels, c2_F_ar_longBytes, c2_F_ar_depth, c2_F_ar_started, c2_F_ar_heldCount⟩
def Q11b1 (Z : State) (ar : Addr) (aset : Addr) (ahd : Addr) (alv : Addr) (kl : ClassId) (aL : Addr) (ls : Int32) (kp : Int32) (ou : Int32) (kh : ClassId) (sd : Int32) (u0 : Value) (amap : Addr) (apr : Addr) (h0 : Heap) (n0 : Nat) (v : Option Value) (h : Heap) (L : List Loc) : Prop := ∃ (b4_2_2_3_9 : Addr), ∃ (k4_2_2_3_9 : ClassId), ∃ (b1_5_2_3_9 : Addr), v = none ∧ Fr n0 L ∧ Keep h0 h [ar, ahd, amap] ∧ Exa Z h ar "com/example/kindgen/kindgen/core/document/RecordOrder" ∧ Fld Z h ar "com/example/kindgen/kindgen/core/document/RecordOrder" "outOfOrder" "Ljava/util/Set;" (.ref aset) ∧ Fld Z h ar "com/example/kindgen/kindgen/core/document/RecordOrder" "held" "[I" (.ref ahd) ∧ Fld Z h ar "com/example/kindgen/kindgen/core/document/RecordOrder" "levels" "[Lcom/example/kindgen/kindgen/core/document/RecordOrder$Level;" (.ref alv) ∧ Fld Z h ar "com/example/kindgen/kindgen/core/document/RecordOrder" "longBytes" "J" (.long (0 : Int64)) ∧ Fld Z h ar "com/example/kindgen/kindgen/core/document/RecordOrder" "depth" "I" (.int (1 : Int32)) ∧ Fld Z h ar "com/example/kindgen/kindgen/core/document/RecordOrder" "started" "I" (.int sd) ∧ Fld Z h ar "com/example/kindgen/kindgen/core/document/RecordOrder" "heldCount" "I" (.int (1 : Int32)) ∧ Arv Z h ahd kh .int (8 : Int32) [(.int (1 : Int32)), (.int (0 : Int32)), (.int (0 : Int32)), (.int (0 : Int32)), (.int (0 : Int32)), (.int (0 : Int32)), (.int (0 : Int32)), (.int (0 : Int32))] (.int (0 : Int32)) ∧ Exa Z h amap "java/util/HashMap" ∧ Fld Z h amap "java/util/HashMap" "table" "[Ljava/util/HashMap$Node;" (.ref b4_2_2_3_9) ∧ Fld Z h amap "java/util/HashMap" "threshold" "I" (.int (12 : Int32)) ∧ Fld Z h amap "java/util/HashMap" "modCount" "I" (.int (1 : Int32)) ∧ Fld Z h amap "java/util/HashMap" "size" "I" (.int (1 : Int32)) ∧ Fld Z h amap "java/util/HashMap" "loadFactor" "F" (.float (1061158912 : UInt32)) ∧ Arv Z h b4_2_2_3_9 k4_2_2_3_9 (.object "java/util/HashMap$Node") (16 : Int32) [(.ref b1_5_2_3_9), .null, .null, .null, .null, .null, .null, .null, .null, .null, .null, .null, .null, .null, .null, .null] .null ∧ Ovr Z k4_2_2_3_9 "java/util/HashMap$Node" ∧ n0 ≤ b4_2_2_3_9 ∧ h0.size ≤ b4_2_2_3_9 ∧ Exa Z h b1_5_2_3_9 "java/util/HashMap$Node" ∧ Fld Z h b1_5_2_3_9 "java/util/HashMap$Node" "hash" "I" (.int (0 : Int32)) ∧ Fld Z h b1_5_2_3_9 "java/util/HashMap$Node" "key" "Ljava/lang/Object;" .null ∧ Fld Z h b1_5_2_3_9 "java/util/HashMap$Node" "value" "Ljava/lang/Object;" (.ref apr) ∧ Fld Z h b1_5_2_3_9 "java/util/HashMap$Node" "next" "Ljava/util/HashMap$Node;" .null ∧ n0 ≤ b1_5_2_3_9 ∧ h0.size ≤ b1_5_2_3_9 ∧ b4_2_2_3_9 ≠ b1_5_2_3_9
set_option maxRecDepth 65536 in
set_option maxHeartbeats 40000000 in
theorem rm11b1 (l : Launch) (Z : State) (a0 : Array Value) (hw : ∀ d ∈ tables_1, d.before a0 Z = true) (ws : List Jvm.Cond) (ar : Addr) (aset : Addr) (ahd : Addr) (alv : Addr) (kl : ClassId) (aL : Addr) (ls : Int32) (kp : Int32) (ou : Int32) (kh : ClassId) (sd : Int32) (u0 : Value) (amap : Addr) (apr : Addr) (h0 : Heap) (n0 : Nat) (Z0 : n0 ≤ h0.size) (ho : ¬ ou = 0) (S_PRESENT : Sta Z h0 "java/util/HashSet" "PRESENT" "Ljava/lang/Object;" (.ref apr)) (E_ar : Exa Z h0 ar "com/example/kindgen/kindgen/core/document/RecordOrder") (F_ar_outOfOrder : Fld Z h0 ar "com/example/kindgen/kindgen/core/document/RecordOrder" "outOfOrder" "Ljava/util/Set;" (.ref aset)) (F_ar_held : Fld Z h0 ar "com/example/kindgen/kindgen/core/document/RecordOrder" "held" "[I" (.ref ahd)) (F_ar_levels : Fld Z h0 ar "com/example/kindgen/kindgen/core/document/RecordOrder" "levels" "[Lcom/example/kindgen/kindgen/core/document/RecordOrder$Level;" (.ref alv)) (F_ar_longBytes : Fld Z h0 ar "com/example/kindgen/kindgen/core/document/RecordOrder" "longBytes" "J" (.long (0 : Int64))) (F_ar_depth : Fld Z h0 ar "com/example/kindgen/kindgen/core/document/RecordOrder" "depth" "I" (.int (2 : Int32))) (F_ar_started : Fld Z h0 ar "com/example/kindgen/kindgen/core/document/RecordOrder" "started" "I" (.int sd)) (F_ar_heldCount : Fld Z h0 ar "com/example/kindgen/kindgen/core/document/RecordOrder" "heldCount" "I" (.int (0 : Int32))) (E_aL : Exa Z h0 aL "com/example/kindgen/kindgen/core/document/RecordOrder$Level") (F_aL_number : Fld Z h0 aL "com/example/kindgen/kindgen/core/document/RecordOrder$Level" "number" "I" (.int (1 : Int32))) (F_aL_record : Fld Z h0 aL "com/example/kindgen/kindgen/core/document/RecordOrder$Level" "record" "Lcom/example/kindgen/kindgen/runtime/RecordShape;" .null) (F_aL_start : Fld Z h0 aL "com/example/kindgen/kindgen/core/document/RecordOrder$Level" "start" "J" (.long (0 : Int64))) (F_aL_lastDeclared : Fld Z h0 aL "com/example/kindgen/kindgen/core/document/RecordOrder$Level" "lastDeclared" "I" (.int ls)) (F_aL_kept : Fld Z h0 aL "com/example/kindgen/kindgen/core/document/RecordOrder$Level" "kept" "Z" (.int kp)) (F_aL_out : Fld Z h0 aL "com/example/kindgen/kindgen/core/document/RecordOrder$Level" "out" "Z" (.int ou)) (E_aset : Exa Z h0 aset "java/util/HashSet") (F_aset_map : Fld Z h0 aset "java/util/HashSet" "map" "Ljava/util/HashMap;" (.ref amap)) (E_amap : Exa Z h0 amap "java/util/HashMap") (F_amap_table : Fld Z h0 amap "java/util/HashMap" "table" "[Ljava/util/HashMap$Node;" .null) (F_amap_threshold : Fld Z h0 amap "java/util/HashMap" "threshold" "I" (.int (0 : Int32))) (F_amap_modCount : Fld Z h0 amap "java/util/HashMap" "modCount" "I" (.int (0 : Int32))) (F_amap_size : Fld Z h0 amap "java/util/HashMap" "size" "I" (.int (0 : Int32))) (F_amap_loadFactor : Fld Z h0 amap "java/util/HashMap" "loadFactor" "F" (.float (1061158912 : UInt32))) (V_alv : Arv Z h0 alv kl (.object "com/example/kindgen/kindgen/core/document/RecordOrder$Level") (16 : Int32) [u0, (.ref aL), .null, .null, .null, .null, .null, .null, .null, .null, .null, .null, .null, .null, .null, .null] .null) (V_ahd : Arv Z h0 ahd kh .int (8 : Int32) [(.int (0 : Int32)), (.int (0 : Int32)), (.int (0 : Int32)), (.int (0 : Int32)), (.int (0 : Int32)), (.int (0 : Int32)), (.int (0 : Int32)), (.int (0 : Int32))] (.int (0 : Int32))) (Ov_alv : Ovr Z kl "com/example/kindgen/kindgen/core/document/RecordOrder$Level") (ne_ar_aL : ar ≠ aL) (ne_ar_aset : ar ≠ aset) (ne_ar_amap : ar ≠ amap) (ne_ar_alv : ar ≠ alv) (ne_ar_ahd : ar ≠ ahd) (ne_aL_aset : aL ≠ aset) (ne_aL_amap : aL ≠ amap) (ne_aL_alv : aL ≠ alv) (ne_aL_ahd : aL ≠ ahd) (ne_aset_amap : aset ≠ amap) (ne_aset_alv : aset ≠ alv) (ne_aset_ahd : aset ≠ ahd) (ne_amap_alv : amap ≠ alv) (ne_amap_ahd : amap ≠ ahd) (ne_alv_ahd : alv ≠ ahd) (g_ar : n0 ≤ ar) (g_ahd : n0 ≤ ahd) (g_amap : n0 ≤ amap) :
    MetFree l (⟨"com/example/kindgen/kindgen/core/document/RecordOrder", "end", "(J)V"⟩ : MethodName) (head1 (Jvm.Cond.code (⟨"com/example/kindgen/kindgen/core/document/RecordOrder", "end", "(J)V"⟩ : MethodName) prog_72_method_6_code 4 none :: ws) ({ frames := 6, cells := 2, slots := 20, locals := 98 } : Room)) (fun a U => a = #[(.ref ar), (.long (0 : Int64))] ∧ Z.Warmed39 U.vm ∧ U.heap = h0) (fun _ _ _ _ _ => True) (fun _ U o U' => ∃ v L, o = .returned v ∧ Q11b1 Z ar aset ahd alv kl aL ls kp ou kh sd u0 amap apr h0 n0 v U'.heap L ∧ FrameEnd U o U' L ({ frames := 6, cells := 2, slots := 20, locals := 98 } : Room).cells ({ frames := 6, cells := 2, slots := 20, locals := 98 } : Room).slots) := by
  refine MetFree.of_bodySF (plainFor_of_name pn_11) hisR ?_
  intro p e s m args below meth c s₁ Bd hml0 hP hK
  obtain ⟨rfl, hZ, hh⟩ := hP
  have hx := Bd.exec
  have hby := Bd.bytes
  have hml : c.maxLocals = 4 := hml0
  have hown : s.vm.findClass "com/example/kindgen/kindgen/core/document/RecordOrder" = some m.cls := findClass_of_methodNamed Bd.named
  have X0 : Stand p l e ({ frames := 6, cells := 2, slots := 20, locals := 98 } : Room) s m #[(.ref ar), (.long (0 : Int64))] below meth c s₁ [] 0 0 := Stand.of_body Bd
  have e0 : s₁.heap = h0 := by rw [← hh, Bd.state]; rfl
  have N0 := Fr.nil n0
  have pre0 : ∀ t, Steps p.tables e below (s₁.setTop (mkF m 0 #[.val (.ref ar), .val (.long (0 : Int64)), .second, .unset] [])) t → Steps p.tables e below (s₁.setTop (entryFrame m #[(.ref ar), (.long (0 : Int64))] 4)) t := fun t k => castTop (ef_11 m ar (0 : Int64)) k
  have K0 : Keep h0 h0 [ar, ahd, amap] := Keep.refl h0 _
  obtain ⟨T1, X1, e1, st1⟩ := getF X0 hx hZ hown (host := "") (Or.inl (hw _ (List.mem_of_getElem? (i := 63) rfl))) Via.refl e0 F_ar_depth (g := (mkF m 2 #[.val (.ref ar), .val (.long (0 : Int64)), .second, .unset] [(.ref ar), (.ref ar)])) rfl rfl (hb hby d11_2)
  obtain ⟨T2, h2, X2, e2, W2, st2⟩ := putF X1 hx hZ hown (host := "") (Or.inl (hw _ (List.mem_of_getElem? (i := 63) rfl))) Via.refl e1 F_ar_depth E_ar (Or.inl (hw _ (List.mem_of_getElem? (i := 64) rfl))) (hw _ (List.mem_of_getElem? (i := 1) rfl)) (ty := .int) (by decide) rfl rfl (g := (mkF m 7 #[.val (.ref ar), .val (.long (0 : Int64)), .second, .unset] [(.int (1 : Int32)), (.ref ar)])) rfl rfl (hb hby d11_7)
  have c2_E_ar := E_ar.wr W2
  have c2_F_ar_outOfOrder := F_ar_outOfOrder.other W2 (Or.inr (slot_ne (Or.inr (hw _ (List.mem_of_getElem? (i := 48) rfl))) (Or.inl (hw _ (List.mem_of_getElem? (i := 64) rfl))) (by decide) (t := (.object "java/util/Set")) (t' := .int) (by decide) (by decide)))
  have c2_F_ar_held := F_ar_held.other W2 (Or.inr (slot_ne (Or.inl (hw _ (List.mem_of_getElem? (i := 51) rfl))) (Or.inl (hw _ (List.mem_of_getElem? (i := 64) rfl))) (by decide) (t := (.array .int)) (t' := .int) (by decide) (by decide)))
  have c2_F_ar_levels := F_ar_levels.other W2 (Or.inr (slot_ne (Or.inl (hw _ (List.mem_of_getElem? (i := 55) rfl))) (Or.inl (hw _ (List.mem_of_getElem? (i := 64) rfl))) (by decide) (t := (.array (.object "com/example/kindgen/kindgen/core/document/RecordOrder$Level"))) (t' := .int) (by decide) (by decide)))
  have c2_F_ar_longBytes := F_ar_longBytes.other W2 (Or.inr (slot_ne (Or.inr (hw _ (List.mem_of_getElem? (i := 57) rfl))) (Or.inl (hw _ (List.mem_of_getElem? (i := 64) rfl))) (by decide) (t := .long) (t' := .int) (by decide) (by decide)))
  have c2_F_ar_depth := F_ar_depth.same W2
  have c2_F_ar_started := F_ar_started.other W2 (Or.inr (slot_ne (Or.inl (hw _ (List.mem_of_getElem? (i := 73) rfl))) (Or.inl (hw _ (List.mem_of_getElem? (i := 64) rfl))) (by decide) (t := .int) (t' := .int) (by decide) (by decide)))
  have c2_F_ar_heldCount := F_ar_heldCount.other W2 (Or.inr (slot_ne (Or.inl (hw _ (List.mem_of_getElem? (i := 165) rfl))) (Or.inl (hw _ (List.mem_of_getElem? (i := 64) rfl))) (by decide) (t := .int) (t' := .int) (by decide) (by decide)))
  have c2_F_aL_number := F_aL_number.other W2 (Or.inl (Ne.symm ne_ar_aL))
  have c2_F_aL_record := F_aL_record.other W2 (Or.inl (Ne.symm ne_ar_aL))
  have c2_F_aL_start := F_aL_start.other W2 (Or.inl (Ne.symm ne_ar_aL))
  have c2_F_aL_out := F_aL_out.other W2 (Or.inl (Ne.symm ne_ar_aL))
  have c2_E_aset := E_aset.wr W2
  have c2_F_aset_map := F_aset_map.other W2 (Or.inl (Ne.symm ne_ar_aset))
  have c2_E_amap := E_amap.wr W2
  have c2_F_amap_table := F_amap_table.other W2 (Or.inl (Ne.symm ne_ar_amap))
  have c2_F_amap_threshold := F_amap_threshold.other W2 (Or.inl (Ne.symm ne_ar_amap))
  have c2_F_amap_modCount := F_amap_modCount.other W2 (Or.inl (Ne.symm ne_ar_amap))
  have c2_F_amap_size := F_amap_size.other W2 (Or.inl (Ne.symm ne_ar_amap))
  have c2_F_amap_loadFactor := F_amap_loadFactor.other W2 (Or.inl (Ne.symm ne_ar_amap))
  have c2_V_alv := V_alv.other W2 (Ne.symm ne_ar_alv)
  have c2_V_ahd := V_ahd.other W2 (Ne.symm ne_ar_ahd)
  have c2_S_java_util_HashSet_PRESENT := S_PRESENT.wr W2
  have N2 := Fr.snoc X2 N0 g_ar
  have Z2 : n0 ≤ h2.size := Nat.le_trans Z0 (Keep.of_wr W2).1
  have K2 : Keep h0 h2 [ar, ahd, amap] := K0.wr W2 (Or.inl (List.mem_of_getElem? (i := 0) rfl))
  obtain ⟨T3, X3, e3, st3⟩ := getF X2 hx hZ hown (host := "") (Or.inl (hw _ (List.mem_of_getElem? (i := 54) rfl))) Via.refl e2 c2_F_ar_levels (g := (mkF m 11 #[.val (.ref ar), .val (.long (0 : Int64)), .second, .unset] [(.ref ar)])) rfl rfl (hb hby d11_11)
  obtain ⟨T4, X4, e4, st4⟩ := getF X3 hx hZ hown (host := "") (Or.inl (hw _ (List.mem_of_getElem? (i := 63) rfl))) Via.refl e3 c2_F_ar_depth (g := (mkF m 15 #[.val (.ref ar), .val (.long (0 : Int64)), .second, .unset] [(.ref ar), (.ref alv)])) rfl rfl (hb hby d11_15)
  obtain ⟨cl_5, Ar_5, -, S_5, N_5, H_5, -⟩ := id c2_V_alv
  have hin_5 : ¬ ((1 : Int32) < 0 ∨ cl_5.slots.size ≤ ((1 : Int32)).toNatClampNeg) := inb_of S_5 ⟨by decide, by decide⟩
  have hat_5 : cl_5.slots[((1 : Int32)).toNatClampNeg]? = some (.ref aL) := Has.at H_5 hin_5 rfl
  obtain ⟨T6, X6, e6, st6⟩ := own_getFR X4 hx hZ hown (hw _ (List.mem_of_getElem? (i := 84) rfl)) e4 c2_F_aL_out (g := (mkF m 21 #[.val (.ref ar), .val (.long (0 : Int64)), .second, .val (.ref aL)] [(.ref aL)])) rfl rfl (hb hby d11_21)
  obtain ⟨T7, X7, e7, st7⟩ := getF X6 hx hZ hown (host := "") (Or.inl (hw _ (List.mem_of_getElem? (i := 47) rfl))) Via.refl e6 c2_F_ar_outOfOrder (g := (mkF m 28 #[.val (.ref ar), .val (.long (0 : Int64)), .second, .val (.ref aL)] [(.ref ar)])) rfl rfl (hb hby d11_28)
  obtain ⟨T8, X8, e8, st8⟩ := own_getFR X7 hx hZ hown (hw _ (List.mem_of_getElem? (i := 76) rfl)) e7 c2_F_aL_record (g := (mkF m 32 #[.val (.ref ar), .val (.long (0 : Int64)), .second, .val (.ref aL)] [(.ref aL), (.ref aset)])) rfl rfl (hb hby d11_32)
  obtain ⟨cq9, kq9, q9a, q9b, q9c⟩ := isOf hZ e8 c2_E_aset
  obtain ⟨_, _, ⟨T9, L9, k9, n9⟩, -, X9, ⟨Lc9, hQ9, l9, y9, z9⟩, st9⟩ := X8.interfaceBack hx (xi := (⟨"java/util/Set", "add", "(Ljava/lang/Object;)Z"⟩ : MethodName)) (y := (⟨"java/util/HashSet", "add", "(Ljava/lang/Object;)Z"⟩ : MethodName)) hown (mvT hZ (hw _ (List.mem_of_getElem? (i := 96) rfl))) (mvT hZ (hw _ (List.mem_of_getElem? (i := 97) rfl))) (mvT hZ (hw _ (List.mem_of_getElem? (i := 98) rfl))) (mvT hZ (hw _ (List.mem_of_getElem? (i := 99) rfl))) (mvT hZ (hw _ (List.mem_of_getElem? (i := 100) rfl))) (mvT hZ (hw _ (List.mem_of_getElem? (i := 101) rfl))) (mvT hZ (hw _ (List.mem_of_getElem? (i := 102) rfl))) (mvT hZ (hw _ (List.mem_of_getElem? (i := 103) rfl))) (by decide) (backOf (W := 0) (rm12a l Z a0 hw [] aset amap apr h2 n0 Z2 c2_S_java_util_HashSet_PRESENT c2_E_aset c2_F_aset_map c2_E_amap c2_F_amap_table c2_F_amap_threshold c2_F_amap_modCount c2_F_amap_size c2_F_amap_loadFactor ne_aset_amap g_amap) hZ (hw _ (List.mem_of_getElem? (i := 104) rfl)) (hw _ (List.mem_of_getElem? (i := 11) rfl)) (by decide) (by decide)) q9a q9b q9c (g := (mkF m 35 #[.val (.ref ar), .val (.long (0 : Int64)), .second, .val (.ref aL)] [.null, (.ref aset)])) rfl (by rw [hml]; rfl) (Steps.refl _) (argsL := [.null]) (rest := []) (lenOf pd_4 rfl) rfl (by show 2 * 0 + _ ≤ _; exact Nat.le_of_eq rfl) (hb hby d11_35) (fun _ _ => ⟨rfl, e8, (by decide : 0 + 2 ≤ _), (by decide : 0 + 20 ≤ _)⟩)
  dsimp only [Pt.U, Pt.locs, Pt.cells, Pt.slots] at X9 l9 y9 z9 st9 hQ9
  subst l9 y9 z9
  obtain ⟨b4_2_2_3_9, k4_2_2_3_9, b1_5_2_3_9, rfl, N9q, K9q, t9_0, t9_1, t9_2, t9_3, t9_4, t9_5, t9_6, t9_7, t9_8, t9_9, t9_10, t9_11, t9_12, t9_13, t9_14, t9_15, t9_16, t9_17⟩ := hQ9
  have N9 := Fr.app N2 N9q
  have nf9_ar_b4_2_2_3_9 : ar ≠ b4_2_2_3_9 := Nat.ne_of_lt (Nat.lt_of_lt_of_le c2_E_ar.lt t9_9)
  have nf9_ahd_b4_2_2_3_9 : ahd ≠ b4_2_2_3_9 := Nat.ne_of_lt (Nat.lt_of_lt_of_le c2_V_ahd.lt t9_9)
  have sz_b4_2_2_3_9 : h0.size ≤ b4_2_2_3_9 := Nat.le_trans K2.1 t9_9
  have nf9_ar_b1_5_2_3_9 : ar ≠ b1_5_2_3_9 := Nat.ne_of_lt (Nat.lt_of_lt_of_le c2_E_ar.lt t9_16)
  have nf9_ahd_b1_5_2_3_9 : ahd ≠ b1_5_2_3_9 := Nat.ne_of_lt (Nat.lt_of_lt_of_le c2_V_ahd.lt t9_16)
  have sz_b1_5_2_3_9 : h0.size ≤ b1_5_2_3_9 := Nat.le_trans K2.1 t9_16
  have c9_E_ar := c2_E_ar.keep K9q
  have c9_F_ar_outOfOrder := c2_F_ar_outOfOrder.keep K9q (by simp only [List.mem_cons, List.not_mem_nil, or_false, not_or]; exact ne_ar_amap)
  have c9_F_ar_held := c2_F_ar_held.keep K9q (by simp only [List.mem_cons, List.not_mem_nil, or_false, not_or]; exact ne_ar_amap)
  have c9_F_ar_levels := c2_F_ar_levels.keep K9q (by simp only [List.mem_cons, List.not_mem_nil, or_false, not_or]; exact ne_ar_amap)
  have c9_F_ar_longBytes := c2_F_ar_longBytes.keep K9q (by simp only [List.mem_cons, List.not_mem_nil, or_false, not_or]; exact ne_ar_amap)
  have c9_F_ar_depth := c2_F_ar_depth.keep K9q (by simp only [List.mem_cons, List.not_mem_nil, or_false, not_or]; exact ne_ar_amap)
  have c9_F_ar_started := c2_F_ar_started.keep K9q (by simp only [List.mem_cons, List.not_mem_nil, or_false, not_or]; exact ne_ar_amap)
  have c9_F_ar_heldCount := c2_F_ar_heldCount.keep K9q (by simp only [List.mem_cons, List.not_mem_nil, or_false, not_or]; exact ne_ar_amap)
  have c9_F_aL_number := c2_F_aL_number.keep K9q (by simp only [List.mem_cons, List.not_mem_nil, or_false, not_or]; exact ne_aL_amap)
  have c9_F_aL_start := c2_F_aL_start.keep K9q (by simp only [List.mem_cons, List.not_mem_nil, or_false, not_or]; exact ne_aL_amap)
  have c9_F_aL_out := c2_F_aL_out.keep K9q (by simp only [List.mem_cons, List.not_mem_nil, or_false, not_or]; exact ne_aL_amap)
  have c9_V_ahd := c2_V_ahd.keep K9q (by simp only [List.mem_cons, List.not_mem_nil, or_false, not_or]; exact (Ne.symm ne_amap_ahd))
  have Z9 : n0 ≤ T9.heap.size := Nat.le_trans Z2 K9q.1
  have K9 : Keep h0 T9.heap [ar, ahd, amap] := K2.trans K9q (fun x hx => by simp only [List.mem_cons, List.not_mem_nil, or_false] at hx; rcases hx with rfl <;> first | exact (Or.inl (List.mem_of_getElem? (i := 2) rfl)))
  obtain ⟨T10, X10, e10, st10⟩ := own_getFR X9 hx hZ hown (hw _ (List.mem_of_getElem? (i := 84) rfl)) rfl c9_F_aL_out (g := (mkF m 42 #[.val (.ref ar), .val (.long (0 : Int64)), .second, .val (.ref aL)] [(.ref aL)])) rfl rfl (hb hby d11_42)
  obtain ⟨T11, X11, e11, st11⟩ := own_getFR X10 hx hZ hown (hw _ (List.mem_of_getElem? (i := 78) rfl)) e10 c9_F_aL_start (g := (mkF m 50 #[.val (.ref ar), .val (.long (0 : Int64)), .second, .val (.ref aL)] [(.ref aL), (.ref ar)])) rfl rfl (hb hby d11_50)
  obtain ⟨cq12, kq12, q12a, q12b, q12c⟩ := isOf hZ e11 c9_E_ar
  obtain ⟨_, _, ⟨T12, L12, k12, n12⟩, -, X12, ⟨Lc12, hQ12, l12, y12, z12⟩, st12⟩ := X11.virtualBack hx (y := (⟨"com/example/kindgen/kindgen/core/document/RecordOrder", "isLong", "(JJ)Z"⟩ : MethodName)) (z := (⟨"com/example/kindgen/kindgen/core/document/RecordOrder", "isLong", "(JJ)Z"⟩ : MethodName)) hown (mvT hZ (hw _ (List.mem_of_getElem? (i := 159) rfl))) (mvT hZ (hw _ (List.mem_of_getElem? (i := 160) rfl))) (notFace_of_selects (args := #[]) (mvT hZ (hw _ (List.mem_of_getElem? (i := 162) rfl)))) (mvT hZ (hw _ (List.mem_of_getElem? (i := 162) rfl))) (mvT hZ (hw _ (List.mem_of_getElem? (i := 161) rfl))) (by decide) (backOf (W := 0) (rm20 l Z a0 hw [] ar  T9.heap n0 Z9 c9_E_ar c9_F_ar_longBytes) hZ (hw _ (List.mem_of_getElem? (i := 163) rfl)) (hw _ (List.mem_of_getElem? (i := 2) rfl)) (by decide) (by decide)) q12a q12c (g := (mkF m 54 #[.val (.ref ar), .val (.long (0 : Int64)), .second, .val (.ref aL)] [(.long (0 : Int64)), (.long (0 : Int64)), (.ref ar)])) rfl (by rw [hml]; rfl) (Steps.refl _) (argsL := [(.long (0 : Int64)), (.long (0 : Int64))]) (rest := []) (lenOf pd_12 rfl) rfl (by show 2 * 0 + _ ≤ _; exact Nat.le_of_eq rfl) (hb hby d11_54) (fun _ _ => ⟨rfl, e11, (by decide : 2 + 0 ≤ _), (by decide : 20 + 0 ≤ _)⟩)
  dsimp only [Pt.U, Pt.locs, Pt.cells, Pt.slots] at X12 l12 y12 z12 st12 hQ12
  subst l12 y12 z12
  obtain ⟨rfl, N12q, K12q⟩ := hQ12
  have N12 := Fr.app N9 N12q
  have c12_E_ar := c9_E_ar.keep K12q
  have c12_F_ar_outOfOrder := c9_F_ar_outOfOrder.keep K12q (by simp)
  have c12_F_ar_held := c9_F_ar_held.keep K12q (by simp)
  have c12_F_ar_levels := c9_F_ar_levels.keep K12q (by simp)
  have c12_F_ar_longBytes := c9_F_ar_longBytes.keep K12q (by simp)
  have c12_F_ar_depth := c9_F_ar_depth.keep K12q (by simp)
  have c12_F_ar_started := c9_F_ar_started.keep K12q (by simp)
  have c12_F_ar_heldCount := c9_F_ar_heldCount.keep K12q (by simp)
  have c12_F_aL_number := c9_F_aL_number.keep K12q (by simp)
  have c12_E_amap := t9_0.keep K12q
  have c12_V_ahd := c9_V_ahd.keep K12q (by simp)
  have c12_F_amap_table := t9_1.keep K12q (by simp)
  have c12_F_amap_threshold := t9_2.keep K12q (by simp)
  have c12_F_amap_modCount := t9_3.keep K12q (by simp)
  have c12_F_amap_size := t9_4.keep K12q (by simp)
  have c12_F_amap_loadFactor := t9_5.keep K12q (by simp)
  have c12_V_b4_2_2_3_9 := t9_6.keep K12q (by simp)
  have c12_E_b1_5_2_3_9 := t9_10.keep K12q
  have c12_F_b1_5_2_3_9_hash := t9_11.keep K12q (by simp)
  have c12_F_b1_5_2_3_9_key := t9_12.keep K12q (by simp)
  have c12_F_b1_5_2_3_9_value := t9_13.keep K12q (by simp)
  have c12_F_b1_5_2_3_9_next := t9_14.keep K12q (by simp)
  have K12 : Keep h0 T12.heap [ar, ahd, amap] := K9.trans K12q (fun x hx => by cases hx)
  obtain ⟨T13, X13, e13, st13⟩ := getF X12 hx hZ hown (host := "") (Or.inl (hw _ (List.mem_of_getElem? (i := 164) rfl))) Via.refl rfl c12_F_ar_heldCount (g := (mkF m 61 #[.val (.ref ar), .val (.long (0 : Int64)), .second, .val (.ref aL)] [(.ref ar)])) rfl rfl (hb hby d11_61)
  obtain ⟨T14, X14, e14, st14⟩ := getF X13 hx hZ hown (host := "") (Or.inl (hw _ (List.mem_of_getElem? (i := 164) rfl))) Via.refl e13 c12_F_ar_heldCount (g := (mkF m 99 #[.val (.ref ar), .val (.long (0 : Int64)), .second, .val (.ref aL)] [(.ref ar)])) rfl rfl (hb hby d11_99)
  obtain ⟨T15, X15, e15, st15⟩ := getF X14 hx hZ hown (host := "") (Or.inl (hw _ (List.mem_of_getElem? (i := 50) rfl))) Via.refl e14 c12_F_ar_held (g := (mkF m 103 #[.val (.ref ar), .val (.long (0 : Int64)), .second, .val (.ref aL)] [(.ref ar), (.int (0 : Int32))])) rfl rfl (hb hby d11_103)
  obtain ⟨cl_16, Ar_16, -, S_16, N_16, -, -⟩ := id c12_V_ahd
  obtain ⟨T17, X17, e17, st17⟩ := getF X15 hx hZ hown (host := "") (Or.inl (hw _ (List.mem_of_getElem? (i := 50) rfl))) Via.refl e15 c12_F_ar_held (g := (mkF m 128 #[.val (.ref ar), .val (.long (0 : Int64)), .second, .val (.ref aL)] [(.ref ar)])) rfl rfl (hb hby d11_128)
  obtain ⟨T18, X18, e18, st18⟩ := getF X17 hx hZ hown (host := "") (Or.inl (hw _ (List.mem_of_getElem? (i := 164) rfl))) Via.refl e17 c12_F_ar_heldCount (g := (mkF m 132 #[.val (.ref ar), .val (.long (0 : Int64)), .second, .val (.ref aL)] [(.ref ar), (.ref ahd)])) rfl rfl (hb hby d11_132)
  obtain ⟨T19, X19, e19, st19⟩ := own_getFR X18 hx hZ hown (hw _ (List.mem_of_getElem? (i := 74) rfl)) e18 c12_F_aL_number (g := (mkF m 136 #[.val (.ref ar), .val (.long (0 : Int64)), .second, .val (.ref aL)] [(.ref aL), (.int (0 : Int32)), (.ref ahd)])) rfl rfl (hb hby d11_136)
  obtain ⟨cl_20, Ar_20, q_20, S_20, N_20, H_20, G_20⟩ := id c12_V_ahd
  have hin_20 : ¬ ((0 : Int32) < 0 ∨ cl_20.slots.size ≤ ((0 : Int32)).toNatClampNeg) := inb_of S_20 ⟨by decide, by decide⟩
  obtain ⟨T21, h21, X21, e21, W21, st21⟩ := stI X19 hx hZ e19 Ar_20 (j := (0 : Int32)) hin_20 (g := (mkF m 139 #[.val (.ref ar), .val (.long (0 : Int64)), .second, .val (.ref aL)] [(.int (1 : Int32)), (.int (0 : Int32)), (.ref ahd)])) rfl rfl (hb hby d11_139)
  have V21 : Arv Z h21 ahd kh .int (8 : Int32) [(.int (1 : Int32)), (.int (0 : Int32)), (.int (0 : Int32)), (.int (0 : Int32)), (.int (0 : Int32)), (.int (0 : Int32)), (.int (0 : Int32)), (.int (0 : Int32))] (.int (0 : Int32)) := Arv.set Ar_20 q_20 S_20 N_20 H_20 G_20 rfl W21 0 rfl (Nat.le_of_ble_eq_true rfl)
  have c21_E_ar := c12_E_ar.wr W21
  have c21_F_ar_outOfOrder := c12_F_ar_outOfOrder.other W21 (Or.inl ne_ar_ahd)
  have c21_F_ar_held := c12_F_ar_held.other W21 (Or.inl ne_ar_ahd)
  have c21_F_ar_levels := c12_F_ar_levels.other W21 (Or.inl ne_ar_ahd)
  have c21_F_ar_longBytes := c12_F_ar_longBytes.other W21 (Or.inl ne_ar_ahd)
  have c21_F_ar_depth := c12_F_ar_depth.other W21 (Or.inl ne_ar_ahd)
  have c21_F_ar_started := c12_F_ar_started.other W21 (Or.inl ne_ar_ahd)
  have c21_F_ar_heldCount := c12_F_ar_heldCount.other W21 (Or.inl ne_ar_ahd)
  have c21_E_amap := c12_E_amap.wr W21
  have c21_F_amap_table := c12_F_amap_table.other W21 (Or.inl ne_amap_ahd)
  have c21_F_amap_threshold := c12_F_amap_threshold.other W21 (Or.inl ne_amap_ahd)
  have c21_F_amap_modCount := c12_F_amap_modCount.other W21 (Or.inl ne_amap_ahd)
  have c21_F_amap_size := c12_F_amap_size.other W21 (Or.inl ne_amap_ahd)
  have c21_F_amap_loadFactor := c12_F_amap_loadFactor.other W21 (Or.inl ne_amap_ahd)
  have c21_V_b4_2_2_3_9 := c12_V_b4_2_2_3_9.other W21 (Ne.symm nf9_ahd_b4_2_2_3_9)
  have c21_E_b1_5_2_3_9 := c12_E_b1_5_2_3_9.wr W21
  have c21_F_b1_5_2_3_9_hash := c12_F_b1_5_2_3_9_hash.other W21 (Or.inl (Ne.symm nf9_ahd_b1_5_2_3_9))
  have c21_F_b1_5_2_3_9_key := c12_F_b1_5_2_3_9_key.other W21 (Or.inl (Ne.symm nf9_ahd_b1_5_2_3_9))
  have c21_F_b1_5_2_3_9_value := c12_F_b1_5_2_3_9_value.other W21 (Or.inl (Ne.symm nf9_ahd_b1_5_2_3_9))
  have c21_F_b1_5_2_3_9_next := c12_F_b1_5_2_3_9_next.other W21 (Or.inl (Ne.symm nf9_ahd_b1_5_2_3_9))
  have N21 := Fr.snoc X21 N12 g_ahd
  have K21 : Keep h0 h21 [ar, ahd, amap] := K12.wr W21 (Or.inl (List.mem_of_getElem? (i := 1) rfl))
  obtain ⟨T22, X22, e22, st22⟩ := getF X21 hx hZ hown (host := "") (Or.inl (hw _ (List.mem_of_getElem? (i := 164) rfl))) Via.refl e21 c21_F_ar_heldCount (g := (mkF m 142 #[.val (.ref ar), .val (.long (0 : Int64)), .second, .val (.ref aL)] [(.ref ar), (.ref ar)])) rfl rfl (hb hby d11_142)
  obtain ⟨T23, h23, X23, e23, W23, st23⟩ := putF X22 hx hZ hown (host := "") (Or.inl (hw _ (List.mem_of_getElem? (i := 164) rfl))) Via.refl e22 c21_F_ar_heldCount c21_E_ar (Or.inl (hw _ (List.mem_of_getElem? (i := 165) rfl))) (hw _ (List.mem_of_getElem? (i := 1) rfl)) (ty := .int) (by decide) rfl rfl (g := (mkF m 147 #[.val (.ref ar), .val (.long (0 : Int64)), .second, .val (.ref aL)] [(.int (1 : Int32)), (.ref ar)])) rfl rfl (hb hby d11_147)
  have c23_E_ar := c21_E_ar.wr W23
  have c23_F_ar_outOfOrder := c21_F_ar_outOfOrder.other W23 (Or.inr (slot_ne (Or.inr (hw _ (List.mem_of_getElem? (i := 48) rfl))) (Or.inl (hw _ (List.mem_of_getElem? (i := 165) rfl))) (by decide) (t := (.object "java/util/Set")) (t' := .int) (by decide) (by decide)))
  have c23_F_ar_held := c21_F_ar_held.other W23 (Or.inr (slot_ne (Or.inl (hw _ (List.mem_of_getElem? (i := 51) rfl))) (Or.inl (hw _ (List.mem_of_getElem? (i := 165) rfl))) (by decide) (t := (.array .int)) (t' := .int) (by decide) (by decide)))
  have c23_F_ar_levels := c21_F_ar_levels.other W23 (Or.inr (slot_ne (Or.inl (hw _ (List.mem_of_getElem? (i := 55) rfl))) (Or.inl (hw _ (List.mem_of_getElem? (i := 165) rfl))) (by decide) (t := (.array (.object "com/example/kindgen/kindgen/core/document/RecordOrder$Level"))) (t' := .int) (by decide) (by decide)))
  have c23_F_ar_longBytes := c21_F_ar_longBytes.other W23 (Or.inr (slot_ne (Or.inr (hw _ (List.mem_of_getElem? (i := 57) rfl))) (Or.inl (hw _ (List.mem_of_getElem? (i := 165) rfl))) (by decide) (t := .long) (t' := .int) (by decide) (by decide)))
  have c23_F_ar_depth := c21_F_ar_depth.other W23 (Or.inr (slot_ne (Or.inl (hw _ (List.mem_of_getElem? (i := 64) rfl))) (Or.inl (hw _ (List.mem_of_getElem? (i := 165) rfl))) (by decide) (t := .int) (t' := .int) (by decide) (by decide)))
  have c23_F_ar_started := c21_F_ar_started.other W23 (Or.inr (slot_ne (Or.inl (hw _ (List.mem_of_getElem? (i := 73) rfl))) (Or.inl (hw _ (List.mem_of_getElem? (i := 165) rfl))) (by decide) (t := .int) (t' := .int) (by decide) (by decide)))
  have c23_F_ar_heldCount := c21_F_ar_heldCount.same W23
  have c23_E_amap := c21_E_amap.wr W23
  have c23_V_ahd := V21.other W23 (Ne.symm ne_ar_ahd)
  have c23_F_amap_table := c21_F_amap_table.other W23 (Or.inl (Ne.symm ne_ar_amap))
  have c23_F_amap_threshold := c21_F_amap_threshold.other W23 (Or.inl (Ne.symm ne_ar_amap))
  have c23_F_amap_modCount := c21_F_amap_modCount.other W23 (Or.inl (Ne.symm ne_ar_amap))
  have c23_F_amap_size := c21_F_amap_size.other W23 (Or.inl (Ne.symm ne_ar_amap))
  have c23_F_amap_loadFactor := c21_F_amap_loadFactor.other W23 (Or.inl (Ne.symm ne_ar_amap))
  have c23_V_b4_2_2_3_9 := c21_V_b4_2_2_3_9.other W23 (Ne.symm nf9_ar_b4_2_2_3_9)
  have c23_E_b1_5_2_3_9 := c21_E_b1_5_2_3_9.wr W23
  have c23_F_b1_5_2_3_9_hash := c21_F_b1_5_2_3_9_hash.other W23 (Or.inl (Ne.symm nf9_ar_b1_5_2_3_9))
  have c23_F_b1_5_2_3_9_key := c21_F_b1_5_2_3_9_key.other W23 (Or.inl (Ne.symm nf9_ar_b1_5_2_3_9))
  have c23_F_b1_5_2_3_9_value := c21_F_b1_5_2_3_9_value.other W23 (Or.inl (Ne.symm nf9_ar_b1_5_2_3_9))
  have c23_F_b1_5_2_3_9_next := c21_F_b1_5_2_3_9_next.other W23 (Or.inl (Ne.symm nf9_ar_b1_5_2_3_9))
  have N23 := Fr.snoc X23 N21 g_ar
  have K23 : Keep h0 h23 [ar, ahd, amap] := K21.wr W23 (Or.inl (List.mem_of_getElem? (i := 0) rfl))
  obtain ⟨fs, hr, hrun, hended, hW, hsame⟩ := X23.leave (v := none) (fun _ => rfl)
  refine ⟨_, _, pre0 _ ?_, hrun, hended, _, _, rfl, ?_, ⟨_, rfl⟩, hW, hsame.mono (by decide) (by decide)⟩
  · show Steps p.tables e below (s₁.setTop (mkF m 0 #[.val (.ref ar), .val (.long (0 : Int64)), .second, .unset] [])) _
    refine XS.aloadN X0.here hx rfl (hb hby d11_0) rfl rfl ?_
    show Steps p.tables e below (s₁.setTop (mkF m 1 #[.val (.ref ar), .val (.long (0 : Int64)), .second, .unset] [(.ref ar)])) _
    refine XS.dup X0.here hx rfl (hb hby d11_1) rfl rfl ?_
    show Steps p.tables e below (s₁.setTop (mkF m 2 #[.val (.ref ar), .val (.long (0 : Int64)), .second, .unset] [(.ref ar), (.ref ar)])) _
    refine st1 _ ?_
    refine XS.iconst X1.here hx rfl (hb hby d11_5) ?_
    show Steps p.tables e below (T1.setTop (mkF m 6 #[.val (.ref ar), .val (.long (0 : Int64)), .second, .unset] [(.int (1 : Int32)), (.int (2 : Int32)), (.ref ar)])) _
    refine XS.isub X1.here hx rfl (hb hby d11_6) rfl ?_
    show Steps p.tables e below (T1.setTop (mkF m 7 #[.val (.ref ar), .val (.long (0 : Int64)), .second, .unset] [(.int (1 : Int32)), (.ref ar)])) _
    refine st2 _ ?_
    refine XS.aloadN X2.here hx rfl (hb hby d11_10) rfl rfl ?_
    show Steps p.tables e below (T2.setTop (mkF m 11 #[.val (.ref ar), .val (.long (0 : Int64)), .second, .unset] [(.ref ar)])) _
    refine st3 _ ?_
    refine XS.aloadN X3.here hx rfl (hb hby d11_14) rfl rfl ?_
    show Steps p.tables e below (T3.setTop (mkF m 15 #[.val (.ref ar), .val (.long (0 : Int64)), .second, .unset] [(.ref ar), (.ref alv)])) _
    refine st4 _ ?_
    show Steps p.tables e below (T4.setTop (mkF m 18 #[.val (.ref ar), .val (.long (0 : Int64)), .second, .unset] [(.int (1 : Int32)), (.ref alv)])) _
    refine X4.aaload hx (j := (1 : Int32)) (v := (.ref aL)) (by rw [e4]; exact Ar_5.1) (State.isArrayOf_alike hZ.alike Ar_5.2.1) rfl Ar_5.2.2 hin_5 hat_5 (g := (mkF m 18 #[.val (.ref ar), .val (.long (0 : Int64)), .second, .unset] [(.int (1 : Int32)), (.ref alv)])) rfl rfl (hb hby d11_18) _ ?_
    show Steps p.tables e below (T4.setTop (mkF m 19 #[.val (.ref ar), .val (.long (0 : Int64)), .second, .unset] [(.ref aL)])) _
    refine XS.astoreN X4.here hx rfl (hb hby d11_19) rfl rfl (l' := #[.val (.ref ar), .val (.long (0 : Int64)), .second, .val (.ref aL)]) rfl ?_
    refine XS.aloadN X4.here hx rfl (hb hby d11_20) rfl rfl ?_
    show Steps p.tables e below (T4.setTop (mkF m 21 #[.val (.ref ar), .val (.long (0 : Int64)), .second, .val (.ref aL)] [(.ref aL)])) _
    refine st6 _ ?_
    show Steps p.tables e below (T6.setTop (mkF m 24 #[.val (.ref ar), .val (.long (0 : Int64)), .second, .val (.ref aL)] [(.int ou)])) _
    refine XS.ifNo X6.here hx rfl (hb hby d11_24) rfl ((if0 _ _).trans (feq ho).1) ?_
    refine XS.aloadN X6.here hx rfl (hb hby d11_27) rfl rfl ?_
    show Steps p.tables e below (T6.setTop (mkF m 28 #[.val (.ref ar), .val (.long (0 : Int64)), .second, .val (.ref aL)] [(.ref ar)])) _
    refine st7 _ ?_
    refine XS.aloadN X7.here hx rfl (hb hby d11_31) rfl rfl ?_
    show Steps p.tables e below (T7.setTop (mkF m 32 #[.val (.ref ar), .val (.long (0 : Int64)), .second, .val (.ref aL)] [(.ref aL), (.ref aset)])) _
    refine st8 _ ?_
    show Steps p.tables e below (T8.setTop (mkF m 35 #[.val (.ref ar), .val (.long (0 : Int64)), .second, .val (.ref aL)] [.null, (.ref aset)])) _
    refine st9.trans ?_
    show Steps p.tables e below (T9.setTop (mkF m 40 #[.val (.ref ar), .val (.long (0 : Int64)), .second, .val (.ref aL)] [(.int (1 : Int32))])) _
    refine XS.pop X9.here hx rfl (hb hby d11_40) rfl rfl ?_
    refine XS.aloadN X9.here hx rfl (hb hby d11_41) rfl rfl ?_
    show Steps p.tables e below (T9.setTop (mkF m 42 #[.val (.ref ar), .val (.long (0 : Int64)), .second, .val (.ref aL)] [(.ref aL)])) _
    refine st10 _ ?_
    show Steps p.tables e below (T10.setTop (mkF m 45 #[.val (.ref ar), .val (.long (0 : Int64)), .second, .val (.ref aL)] [(.int ou)])) _
    refine XS.ifNo X10.here hx rfl (hb hby d11_45) rfl ((if0 _ _).trans (feq ho).1) ?_
    refine XS.aloadN X10.here hx rfl (hb hby d11_48) rfl rfl ?_
    refine XS.aloadN X10.here hx rfl (hb hby d11_49) rfl rfl ?_
    show Steps p.tables e below (T10.setTop (mkF m 50 #[.val (.ref ar), .val (.long (0 : Int64)), .second, .val (.ref aL)] [(.ref aL), (.ref ar)])) _
    refine st11 _ ?_
    refine XS.lloadN X11.here hx rfl (hb hby d11_53) rfl ?_
    show Steps p.tables e below (T11.setTop (mkF m 54 #[.val (.ref ar), .val (.long (0 : Int64)), .second, .val (.ref aL)] [(.long (0 : Int64)), (.long (0 : Int64)), (.ref ar)])) _
    refine st12.trans ?_
    show Steps p.tables e below (T12.setTop (mkF m 57 #[.val (.ref ar), .val (.long (0 : Int64)), .second, .val (.ref aL)] [(.int (1 : Int32))])) _
    refine XS.ifNo X12.here hx rfl (hb hby d11_57) rfl ((if0 _ _).trans (feq (by decide : ¬ ((1 : Int32) = (0 : Int32)))).1) ?_
    refine XS.aloadN X12.here hx rfl (hb hby d11_60) rfl rfl ?_
    show Steps p.tables e below (T12.setTop (mkF m 61 #[.val (.ref ar), .val (.long (0 : Int64)), .second, .val (.ref aL)] [(.ref ar)])) _
    refine st13 _ ?_
    show Steps p.tables e below (T13.setTop (mkF m 64 #[.val (.ref ar), .val (.long (0 : Int64)), .second, .val (.ref aL)] [(.int (0 : Int32))])) _
    refine XS.ifYes X13.here hx rfl (pc0 := 64) (pc' := 98) rfl (hb hby d11_64) rfl ((if0 _ _).trans (flt (by decide : ¬ ((0 : Int32) < (0 : Int32)))).2.2.2) (by decide) (by decide) ?_
    refine XS.aloadN X13.here hx rfl (hb hby d11_98) rfl rfl ?_
    show Steps p.tables e below (T13.setTop (mkF m 99 #[.val (.ref ar), .val (.long (0 : Int64)), .second, .val (.ref aL)] [(.ref ar)])) _
    refine st14 _ ?_
    refine XS.aloadN X14.here hx rfl (hb hby d11_102) rfl rfl ?_
    show Steps p.tables e below (T14.setTop (mkF m 103 #[.val (.ref ar), .val (.long (0 : Int64)), .second, .val (.ref aL)] [(.ref ar), (.int (0 : Int32))])) _
    refine st15 _ ?_
    show Steps p.tables e below (T15.setTop (mkF m 106 #[.val (.ref ar), .val (.long (0 : Int64)), .second, .val (.ref aL)] [(.ref ahd), (.int (0 : Int32))])) _
    refine X15.arraylength hx (by rw [e15]; exact Ar_16.1) (State.isArrayOf_alike hZ.alike Ar_16.2.1) (g := (mkF m 106 #[.val (.ref ar), .val (.long (0 : Int64)), .second, .val (.ref aL)] [(.ref ahd), (.int (0 : Int32))])) rfl rfl (hb hby d11_106) _ ?_
    rw [len_of S_16 N_16]
    show Steps p.tables e below (T15.setTop (mkF m 107 #[.val (.ref ar), .val (.long (0 : Int64)), .second, .val (.ref aL)] [(.int (8 : Int32)), (.int (0 : Int32))])) _
    refine XS.icmpYes X15.here hx rfl (pc0 := 107) (pc' := 127) rfl (hb hby d11_107) rfl (feq (by decide : ¬ ((0 : Int32) = (8 : Int32)))).2 (by decide) (by decide) ?_
    refine XS.aloadN X15.here hx rfl (hb hby d11_127) rfl rfl ?_
    show Steps p.tables e below (T15.setTop (mkF m 128 #[.val (.ref ar), .val (.long (0 : Int64)), .second, .val (.ref aL)] [(.ref ar)])) _
    refine st17 _ ?_
    refine XS.aloadN X17.here hx rfl (hb hby d11_131) rfl rfl ?_
    show Steps p.tables e below (T17.setTop (mkF m 132 #[.val (.ref ar), .val (.long (0 : Int64)), .second, .val (.ref aL)] [(.ref ar), (.ref ahd)])) _
    refine st18 _ ?_
    refine XS.aloadN X18.here hx rfl (hb hby d11_135) rfl rfl ?_
    show Steps p.tables e below (T18.setTop (mkF m 136 #[.val (.ref ar), .val (.long (0 : Int64)), .second, .val (.ref aL)] [(.ref aL), (.int (0 : Int32)), (.ref ahd)])) _
    refine st19 _ ?_
    show Steps p.tables e below (T19.setTop (mkF m 139 #[.val (.ref ar), .val (.long (0 : Int64)), .second, .val (.ref aL)] [(.int (1 : Int32)), (.int (0 : Int32)), (.ref ahd)])) _
    refine st21 _ ?_
    refine XS.aloadN X21.here hx rfl (hb hby d11_140) rfl rfl ?_
    show Steps p.tables e below (T21.setTop (mkF m 141 #[.val (.ref ar), .val (.long (0 : Int64)), .second, .val (.ref aL)] [(.ref ar)])) _
    refine XS.dup X21.here hx rfl (hb hby d11_141) rfl rfl ?_
    show Steps p.tables e below (T21.setTop (mkF m 142 #[.val (.ref ar), .val (.long (0 : Int64)), .second, .val (.ref aL)] [(.ref ar), (.ref ar)])) _
    refine st22 _ ?_
    refine XS.iconst X22.here hx rfl (hb hby d11_145) ?_
    refine XS.iadd X22.here hx rfl (hb hby d11_146) rfl ?_
    show Steps p.tables e below (T22.setTop (mkF m 147 #[.val (.ref ar), .val (.long (0 : Int64)), .second, .val (.ref aL)] [(.int (1 : Int32)), (.ref ar)])) _
    refine st23 _ ?_
    show Steps p.tables e below (T23.setTop (mkF m 150 #[.val (.ref ar), .val (.long (0 : Int64)), .second, .val (.ref aL)] [])) _
    exact X23.returnOut hx Bd.returns (hb hby d11_150) hr
  · show Q11b1 Z ar aset ahd alv kl aL ls kp ou kh sd u0 amap apr h0 n0 _ T23.heap _
    rw [e23]
    exact ⟨b4_2_2_3_9, k4_2_2_3_9, b1_5_2_3_9, rfl, N23, K23, c23_E_ar, c23_F_ar_outOfOrder, c23_F_ar_held, c23_F_ar_levels, c23_F_ar_longBytes, c23_F_ar_depth, c23_F_ar_started, c23_F_ar_heldCount, c23_V_ahd, c23_E_amap, c23_F_amap_table, c23_F_amap_threshold, c23_F_amap_modCount, c23_F_amap_size, c23_F_amap_loadFactor, c23_V_b4_2_2_3_9, t9_7, t9_8, sz_b4_2_2_3_9, c23_E_b1_5_2_3_9, c23_F_b1_5_2_3_9_hash, c23_F_b1_5_2_3_9_key, c23_F_b1_5_2_3_9_value, c23_F_b1_5_2_3_9_next, t9_15, sz_b1_5_2_3_9, t9_17⟩
def Q11b0 (Z : State) (ar : Addr) (aset : Addr) (ahd : Addr) (alv : Addr) (kl : ClassId) (aL : Addr) (ls : Int32) (kp : Int32) (ou : Int32) (kh : ClassId) (sd : Int32) (u1 : Value) (amap : Addr) (apr : Addr) (h0 : Heap) (n0 : Nat) (v : Option Value) (h : Heap) (L : List Loc) : Prop := ∃ (b4_2_2_3_9 : Addr), ∃ (k4_2_2_3_9 : ClassId), ∃ (b1_5_2_3_9 : Addr), v = none ∧ Fr n0 L ∧ Keep h0 h [ar, ahd, amap] ∧ Exa Z h ar "com/example/kindgen/kindgen/core/document/RecordOrder" ∧ Fld Z h ar "com/example/kindgen/kindgen/core/document/RecordOrder" "outOfOrder" "Ljava/util/Set;" (.ref aset) ∧ Fld Z h ar "com/example/kindgen/kindgen/core/document/RecordOrder" "held" "[I" (.ref ahd) ∧ Fld Z h ar "com/example/kindgen/kindgen/core/document/RecordOrder" "levels" "[Lcom/example/kindgen/kindgen/core/document/RecordOrder$Level;" (.ref alv) ∧ Fld Z h ar "com/example/kindgen/kindgen/core/document/RecordOrder" "longBytes" "J" (.long (0 : Int64)) ∧ Fld Z h ar "com/example/kindgen/kindgen/core/document/RecordOrder" "depth" "I" (.int (0 : Int32)) ∧ Fld Z h ar "com/example/kindgen/kindgen/core/document/RecordOrder" "started" "I" (.int sd) ∧ Fld Z h ar "com/example/kindgen/kindgen/core/document/RecordOrder" "heldCount" "I" (.int (1 : Int32)) ∧ Arv Z h ahd kh .int (8 : Int32) [(.int (0 : Int32)), (.int (0 : Int32)), (.int (0 : Int32)), (.int (0 : Int32)), (.int (0 : Int32)), (.int (0 : Int32)), (.int (0 : Int32)), (.int (0 : Int32))] (.int (0 : Int32)) ∧ Exa Z h amap "java/util/HashMap" ∧ Fld Z h amap "java/util/HashMap" "table" "[Ljava/util/HashMap$Node;" (.ref b4_2_2_3_9) ∧ Fld Z h amap "java/util/HashMap" "threshold" "I" (.int (12 : Int32)) ∧ Fld Z h amap "java/util/HashMap" "modCount" "I" (.int (1 : Int32)) ∧ Fld Z h amap "java/util/HashMap" "size" "I" (.int (1 : Int32)) ∧ Fld Z h amap "java/util/HashMap" "loadFactor" "F" (.float (1061158912 : UInt32)) ∧ Arv Z h b4_2_2_3_9 k4_2_2_3_9 (.object "java/util/HashMap$Node") (16 : Int32) [(.ref b1_5_2_3_9), .null, .null, .null, .null, .null, .null, .null, .null, .null, .null, .null, .null, .null, .null, .null] .null ∧ Ovr Z k4_2_2_3_9 "java/util/HashMap$Node" ∧ n0 ≤ b4_2_2_3_9 ∧ h0.size ≤ b4_2_2_3_9 ∧ Exa Z h b1_5_2_3_9 "java/util/HashMap$Node" ∧ Fld Z h b1_5_2_3_9 "java/util/HashMap$Node" "hash" "I" (.int (0 : Int32)) ∧ Fld Z h b1_5_2_3_9 "java/util/HashMap$Node" "key" "Ljava/lang/Object;" .null ∧ Fld Z h b1_5_2_3_9 "java/util/HashMap$Node" "value" "Ljava/lang/Object;" (.ref apr) ∧ Fld Z h b1_5_2_3_9 "java/util/HashMap$Node" "next" "Ljava/util/HashMap$Node;" .null ∧ n0 ≤ b1_5_2_3_9 ∧ h0.size ≤ b1_5_2_3_9 ∧ b4_2_2_3_9 ≠ b1_5_2_3_9
set_option maxRecDepth 65536 in
set_option maxHeartbeats 40000000 in
theorem rm11b0 (l : Launch) (Z : State) (a0 : Array Value) (hw : ∀ d ∈ tables_1, d.before a0 Z = true) (ws : List Jvm.Cond) (ar : Addr) (aset : Addr) (ahd : Addr) (alv : Addr) (kl : ClassId) (aL : Addr) (ls : Int32) (kp : Int32) (ou : Int32) (kh : ClassId) (sd : Int32) (u1 : Value) (amap : Addr) (apr : Addr) (h0 : Heap) (n0 : Nat) (Z0 : n0 ≤ h0.size) (ho : ¬ ou = 0) (S_PRESENT : Sta Z h0 "java/util/HashSet" "PRESENT" "Ljava/lang/Object;" (.ref apr)) (E_ar : Exa Z h0 ar "com/example/kindgen/kindgen/core/document/RecordOrder") (F_ar_outOfOrder : Fld Z h0 ar "com/example/kindgen/kindgen/core/document/RecordOrder" "outOfOrder" "Ljava/util/Set;" (.ref aset)) (F_ar_held : Fld Z h0 ar "com/example/kindgen/kindgen/core/document/RecordOrder" "held" "[I" (.ref ahd)) (F_ar_levels : Fld Z h0 ar "com/example/kindgen/kindgen/core/document/RecordOrder" "levels" "[Lcom/example/kindgen/kindgen/core/document/RecordOrder$Level;" (.ref alv)) (F_ar_longBytes : Fld Z h0 ar "com/example/kindgen/kindgen/core/document/RecordOrder" "longBytes" "J" (.long (0 : Int64))) (F_ar_depth : Fld Z h0 ar "com/example/kindgen/kindgen/core/document/RecordOrder" "depth" "I" (.int (1 : Int32))) (F_ar_started : Fld Z h0 ar "com/example/kindgen/kindgen/core/document/RecordOrder" "started" "I" (.int sd)) (F_ar_heldCount : Fld Z h0 ar "com/example/kindgen/kindgen/core/document/RecordOrder" "heldCount" "I" (.int (0 : Int32))) (E_aL : Exa Z h0 aL "com/example/kindgen/kindgen/core/document/RecordOrder$Level") (F_aL_number : Fld Z h0 aL "com/example/kindgen/kindgen/core/document/RecordOrder$Level" "number" "I" (.int (0 : Int32))) (F_aL_record : Fld Z h0 aL "com/example/kindgen/kindgen/core/document/RecordOrder$Level" "record" "Lcom/example/kindgen/kindgen/runtime/RecordShape;" .null) (F_aL_start : Fld Z h0 aL "com/example/kindgen/kindgen/core/document/RecordOrder$Level" "start" "J" (.long (0 : Int64))) (F_aL_lastDeclared : Fld Z h0 aL "com/example/kindgen/kindgen/core/document/RecordOrder$Level" "lastDeclared" "I" (.int ls)) (F_aL_kept : Fld Z h0 aL "com/example/kindgen/kindgen/core/document/RecordOrder$Level" "kept" "Z" (.int kp)) (F_aL_out : Fld Z h0 aL "com/example/kindgen/kindgen/core/document/RecordOrder$Level" "out" "Z" (.int ou)) (E_aset : Exa Z h0 aset "java/util/HashSet") (F_aset_map : Fld Z h0 aset "java/util/HashSet" "map" "Ljava/util/HashMap;" (.ref amap)) (E_amap : Exa Z h0 amap "java/util/HashMap") (F_amap_table : Fld Z h0 amap "java/util/HashMap" "table" "[Ljava/util/HashMap$Node;" .null) (F_amap_threshold : Fld Z h0 amap "java/util/HashMap" "threshold" "I" (.int (0 : Int32))) (F_amap_modCount : Fld Z h0 amap "java/util/HashMap" "modCount" "I" (.int (0 : Int32))) (F_amap_size : Fld Z h0 amap "java/util/HashMap" "size" "I" (.int (0 : Int32))) (F_amap_loadFactor : Fld Z h0 amap "java/util/HashMap" "loadFactor" "F" (.float (1061158912 : UInt32))) (V_alv : Arv Z h0 alv kl (.object "com/example/kindgen/kindgen/core/document/RecordOrder$Level") (16 : Int32) [(.ref aL), u1, .null, .null, .null, .null, .null, .null, .null, .null, .null, .null, .null, .null, .null, .null] .null) (V_ahd : Arv Z h0 ahd kh .int (8 : Int32) [(.int (0 : Int32)), (.int (0 : Int32)), (.int (0 : Int32)), (.int (0 : Int32)), (.int (0 : Int32)), (.int (0 : Int32)), (.int (0 : Int32)), (.int (0 : Int32))] (.int (0 : Int32))) (Ov_alv : Ovr Z kl "com/example/kindgen/kindgen/core/document/RecordOrder$Level") (ne_ar_aL : ar ≠ aL) (ne_ar_aset : ar ≠ aset) (ne_ar_amap : ar ≠ amap) (ne_ar_alv : ar ≠ alv) (ne_ar_ahd : ar ≠ ahd) (ne_aL_aset : aL ≠ aset) (ne_aL_amap : aL ≠ amap) (ne_aL_alv : aL ≠ alv) (ne_aL_ahd : aL ≠ ahd) (ne_aset_amap : aset ≠ amap) (ne_aset_alv : aset ≠ alv) (ne_aset_ahd : aset ≠ ahd) (ne_amap_alv : amap ≠ alv) (ne_amap_ahd : amap ≠ ahd) (ne_alv_ahd : alv ≠ ahd) (g_ar : n0 ≤ ar) (g_ahd : n0 ≤ ahd) (g_amap : n0 ≤ amap) :
    MetFree l (⟨"com/example/kindgen/kindgen/core/document/RecordOrder", "end", "(J)V"⟩ : MethodName) (head1 (Jvm.Cond.code (⟨"com/example/kindgen/kindgen/core/document/RecordOrder", "end", "(J)V"⟩ : MethodName) prog_72_method_6_code 4 none :: ws) ({ frames := 6, cells := 2, slots := 20, locals := 98 } : Room)) (fun a U => a = #[(.ref ar), (.long (0 : Int64))] ∧ Z.Warmed39 U.vm ∧ U.heap = h0) (fun _ _ _ _ _ => True) (fun _ U o U' => ∃ v L, o = .returned v ∧ Q11b0 Z ar aset ahd alv kl aL ls kp ou kh sd u1 amap apr h0 n0 v U'.heap L ∧ FrameEnd U o U' L ({ frames := 6, cells := 2, slots := 20, locals := 98 } : Room).cells ({ frames := 6, cells := 2, slots := 20, locals := 98 } : Room).slots) := by
  refine MetFree.of_bodySF (plainFor_of_name pn_11) hisR ?_
  intro p e s m args below meth c s₁ Bd hml0 hP hK
  obtain ⟨rfl, hZ, hh⟩ := hP
  have hx := Bd.exec
  have hby := Bd.bytes
  have hml : c.maxLocals = 4 := hml0
  have hown : s.vm.findClass "com/example/kindgen/kindgen/core/document/RecordOrder" = some m.cls := findClass_of_methodNamed Bd.named
  have X0 : Stand p l e ({ frames := 6, cells := 2, slots := 20, locals := 98 } : Room) s m #[(.ref ar), (.long (0 : Int64))] below meth c s₁ [] 0 0 := Stand.of_body Bd
  have e0 : s₁.heap = h0 := by rw [← hh, Bd.state]; rfl
  have N0 := Fr.nil n0
  have pre0 : ∀ t, Steps p.tables e below (s₁.setTop (mkF m 0 #[.val (.ref ar), .val (.long (0 : Int64)), .second, .unset] [])) t → Steps p.tables e below (s₁.setTop (entryFrame m #[(.ref ar), (.long (0 : Int64))] 4)) t := fun t k => castTop (ef_11 m ar (0 : Int64)) k
  have K0 : Keep h0 h0 [ar, ahd, amap] := Keep.refl h0 _
  obtain ⟨T1, X1, e1, st1⟩ := getF X0 hx hZ hown (host := "") (Or.inl (hw _ (List.mem_of_getElem? (i := 63) rfl))) Via.refl e0 F_ar_depth (g := (mkF m 2 #[.val (.ref ar), .val (.long (0 : Int64)), .second, .unset] [(.ref ar), (.ref ar)])) rfl rfl (hb hby d11_2)
  obtain ⟨T2, h2, X2, e2, W2, st2⟩ := putF X1 hx hZ hown (host := "") (Or.inl (hw _ (List.mem_of_getElem? (i := 63) rfl))) Via.refl e1 F_ar_depth E_ar (Or.inl (hw _ (List.mem_of_getElem? (i := 64) rfl))) (hw _ (List.mem_of_getElem? (i := 1) rfl)) (ty := .int) (by decide) rfl rfl (g := (mkF m 7 #[.val (.ref ar), .val (.long (0 : Int64)), .second, .unset] [(.int (0 : Int32)), (.ref ar)])) rfl rfl (hb hby d11_7)
  have c2_E_ar := E_ar.wr W2
  have c2_F_ar_outOfOrder := F_ar_outOfOrder.other W2 (Or.inr (slot_ne (Or.inr (hw _ (List.mem_of_getElem? (i := 48) rfl))) (Or.inl (hw _ (List.mem_of_getElem? (i := 64) rfl))) (by decide) (t := (.object "java/util/Set")) (t' := .int) (by decide) (by decide)))
  have c2_F_ar_held := F_ar_held.other W2 (Or.inr (slot_ne (Or.inl (hw _ (List.mem_of_getElem? (i := 51) rfl))) (Or.inl (hw _ (List.mem_of_getElem? (i := 64) rfl))) (by decide) (t := (.array .int)) (t' := .int) (by decide) (by decide)))
  have c2_F_ar_levels := F_ar_levels.other W2 (Or.inr (slot_ne (Or.inl (hw _ (List.mem_of_getElem? (i := 55) rfl))) (Or.inl (hw _ (List.mem_of_getElem? (i := 64) rfl))) (by decide) (t := (.array (.object "com/example/kindgen/kindgen/core/document/RecordOrder$Level"))) (t' := .int) (by decide) (by decide)))
  have c2_F_ar_longBytes := F_ar_longBytes.other W2 (Or.inr (slot_ne (Or.inr (hw _ (List.mem_of_getElem? (i := 57) rfl))) (Or.inl (hw _ (List.mem_of_getElem? (i := 64) rfl))) (by decide) (t := .long) (t' := .int) (by decide) (by decide)))
  have c2_F_ar_depth := F_ar_depth.same W2
  have c2_F_ar_started := F_ar_started.other W2 (Or.inr (slot_ne (Or.inl (hw _ (List.mem_of_getElem? (i := 73) rfl))) (Or.inl (hw _ (List.mem_of_getElem? (i := 64) rfl))) (by decide) (t := .int) (t' := .int) (by decide) (by decide)))
  have c2_F_ar_heldCount := F_ar_heldCount.other W2 (Or.inr (slot_ne (Or.inl (hw _ (List.mem_of_getElem? (i := 165) rfl))) (Or.inl (hw _ (List.mem_of_getElem? (i := 64) rfl))) (by decide) (t := .int) (t' := .int) (by decide) (by decide)))
  have c2_F_aL_number := F_aL_number.other W2 (Or.inl (Ne.symm ne_ar_aL))
  have c2_F_aL_record := F_aL_record.other W2 (Or.inl (Ne.symm ne_ar_aL))
  have c2_F_aL_start := F_aL_start.other W2 (Or.inl (Ne.symm ne_ar_aL))
  have c2_F_aL_out := F_aL_out.other W2 (Or.inl (Ne.symm ne_ar_aL))
  have c2_E_aset := E_aset.wr W2
  have c2_F_aset_map := F_aset_map.other W2 (Or.inl (Ne.symm ne_ar_aset))
  have c2_E_amap := E_amap.wr W2
  have c2_F_amap_table := F_amap_table.other W2 (Or.inl (Ne.symm ne_ar_amap))
  have c2_F_amap_threshold := F_amap_threshold.other W2 (Or.inl (Ne.symm ne_ar_amap))
  have c2_F_amap_modCount := F_amap_modCount.other W2 (Or.inl (Ne.symm ne_ar_amap))
  have c2_F_amap_size := F_amap_size.other W2 (Or.inl (Ne.symm ne_ar_amap))
  have c2_F_amap_loadFactor := F_amap_loadFactor.other W2 (Or.inl (Ne.symm ne_ar_amap))
  have c2_V_alv := V_alv.other W2 (Ne.symm ne_ar_alv)
  have c2_V_ahd := V_ahd.other W2 (Ne.symm ne_ar_ahd)
  have c2_S_java_util_HashSet_PRESENT := S_PRESENT.wr W2
  have N2 := Fr.snoc X2 N0 g_ar
  have Z2 : n0 ≤ h2.size := Nat.le_trans Z0 (Keep.of_wr W2).1
  have K2 : Keep h0 h2 [ar, ahd, amap] := K0.wr W2 (Or.inl (List.mem_of_getElem? (i := 0) rfl))
  obtain ⟨T3, X3, e3, st3⟩ := getF X2 hx hZ hown (host := "") (Or.inl (hw _ (List.mem_of_getElem? (i := 54) rfl))) Via.refl e2 c2_F_ar_levels (g := (mkF m 11 #[.val (.ref ar), .val (.long (0 : Int64)), .second, .unset] [(.ref ar)])) rfl rfl (hb hby d11_11)
  obtain ⟨T4, X4, e4, st4⟩ := getF X3 hx hZ hown (host := "") (Or.inl (hw _ (List.mem_of_getElem? (i := 63) rfl))) Via.refl e3 c2_F_ar_depth (g := (mkF m 15 #[.val (.ref ar), .val (.long (0 : Int64)), .second, .unset] [(.ref ar), (.ref alv)])) rfl rfl (hb hby d11_15)
  obtain ⟨cl_5, Ar_5, -, S_5, N_5, H_5, -⟩ := id c2_V_alv
  have hin_5 : ¬ ((0 : Int32) < 0 ∨ cl_5.slots.size ≤ ((0 : Int32)).toNatClampNeg) := inb_of S_5 ⟨by decide, by decide⟩
  have hat_5 : cl_5.slots[((0 : Int32)).toNatClampNeg]? = some (.ref aL) := Has.at H_5 hin_5 rfl
  obtain ⟨T6, X6, e6, st6⟩ := own_getFR X4 hx hZ hown (hw _ (List.mem_of_getElem? (i := 84) rfl)) e4 c2_F_aL_out (g := (mkF m 21 #[.val (.ref ar), .val (.long (0 : Int64)), .second, .val (.ref aL)] [(.ref aL)])) rfl rfl (hb hby d11_21)
  obtain ⟨T7, X7, e7, st7⟩ := getF X6 hx hZ hown (host := "") (Or.inl (hw _ (List.mem_of_getElem? (i := 47) rfl))) Via.refl e6 c2_F_ar_outOfOrder (g := (mkF m 28 #[.val (.ref ar), .val (.long (0 : Int64)), .second, .val (.ref aL)] [(.ref ar)])) rfl rfl (hb hby d11_28)
  obtain ⟨T8, X8, e8, st8⟩ := own_getFR X7 hx hZ hown (hw _ (List.mem_of_getElem? (i := 76) rfl)) e7 c2_F_aL_record (g := (mkF m 32 #[.val (.ref ar), .val (.long (0 : Int64)), .second, .val (.ref aL)] [(.ref aL), (.ref aset)])) rfl rfl (hb hby d11_32)
  obtain ⟨cq9, kq9, q9a, q9b, q9c⟩ := isOf hZ e8 c2_E_aset
  obtain ⟨_, _, ⟨T9, L9, k9, n9⟩, -, X9, ⟨Lc9, hQ9, l9, y9, z9⟩, st9⟩ := X8.interfaceBack hx (xi := (⟨"java/util/Set", "add", "(Ljava/lang/Object;)Z"⟩ : MethodName)) (y := (⟨"java/util/HashSet", "add", "(Ljava/lang/Object;)Z"⟩ : MethodName)) hown (mvT hZ (hw _ (List.mem_of_getElem? (i := 96) rfl))) (mvT hZ (hw _ (List.mem_of_getElem? (i := 97) rfl))) (mvT hZ (hw _ (List.mem_of_getElem? (i := 98) rfl))) (mvT hZ (hw _ (List.mem_of_getElem? (i := 99) rfl))) (mvT hZ (hw _ (List.mem_of_getElem? (i := 100) rfl))) (mvT hZ (hw _ (List.mem_of_getElem? (i := 101) rfl))) (mvT hZ (hw _ (List.mem_of_getElem? (i := 102) rfl))) (mvT hZ (hw _ (List.mem_of_getElem? (i := 103) rfl))) (by decide) (backOf (W := 0) (rm12a l Z a0 hw [] aset amap apr h2 n0 Z2 c2_S_java_util_HashSet_PRESENT c2_E_aset c2_F_aset_map c2_E_amap c2_F_amap_table c2_F_amap_threshold c2_F_amap_modCount c2_F_amap_size c2_F_amap_loadFactor ne_aset_amap g_amap) hZ (hw _ (List.mem_of_getElem? (i := 104) rfl)) (hw _ (List.mem_of_getElem? (i := 11) rfl)) (by decide) (by decide)) q9a q9b q9c (g := (mkF m 35 #[.val (.ref ar), .val (.long (0 : Int64)), .second, .val (.ref aL)] [.null, (.ref aset)])) rfl (by rw [hml]; rfl) (Steps.refl _) (argsL := [.null]) (rest := []) (lenOf pd_4 rfl) rfl (by show 2 * 0 + _ ≤ _; exact Nat.le_of_eq rfl) (hb hby d11_35) (fun _ _ => ⟨rfl, e8, (by decide : 0 + 2 ≤ _), (by decide : 0 + 20 ≤ _)⟩)
  dsimp only [Pt.U, Pt.locs, Pt.cells, Pt.slots] at X9 l9 y9 z9 st9 hQ9
  subst l9 y9 z9
  obtain ⟨b4_2_2_3_9, k4_2_2_3_9, b1_5_2_3_9, rfl, N9q, K9q, t9_0, t9_1, t9_2, t9_3, t9_4, t9_5, t9_6, t9_7, t9_8, t9_9, t9_10, t9_11, t9_12, t9_13, t9_14, t9_15, t9_16, t9_17⟩ := hQ9
  have N9 := Fr.app N2 N9q
  have nf9_ar_b4_2_2_3_9 : ar ≠ b4_2_2_3_9 := Nat.ne_of_lt (Nat.lt_of_lt_of_le c2_E_ar.lt t9_9)
  have nf9_ahd_b4_2_2_3_9 : ahd ≠ b4_2_2_3_9 := Nat.ne_of_lt (Nat.lt_of_lt_of_le c2_V_ahd.lt t9_9)
  have sz_b4_2_2_3_9 : h0.size ≤ b4_2_2_3_9 := Nat.le_trans K2.1 t9_9
  have nf9_ar_b1_5_2_3_9 : ar ≠ b1_5_2_3_9 := Nat.ne_of_lt (Nat.lt_of_lt_of_le c2_E_ar.lt t9_16)
  have nf9_ahd_b1_5_2_3_9 : ahd ≠ b1_5_2_3_9 := Nat.ne_of_lt (Nat.lt_of_lt_of_le c2_V_ahd.lt t9_16)
  have sz_b1_5_2_3_9 : h0.size ≤ b1_5_2_3_9 := Nat.le_trans K2.1 t9_16
  have c9_E_ar := c2_E_ar.keep K9q
  have c9_F_ar_outOfOrder := c2_F_ar_outOfOrder.keep K9q (by simp only [List.mem_cons, List.not_mem_nil, or_false, not_or]; exact ne_ar_amap)
  have c9_F_ar_held := c2_F_ar_held.keep K9q (by simp only [List.mem_cons, List.not_mem_nil, or_false, not_or]; exact ne_ar_amap)
  have c9_F_ar_levels := c2_F_ar_levels.keep K9q (by simp only [List.mem_cons, List.not_mem_nil, or_false, not_or]; exact ne_ar_amap)
  have c9_F_ar_longBytes := c2_F_ar_longBytes.keep K9q (by simp only [List.mem_cons, List.not_mem_nil, or_false, not_or]; exact ne_ar_amap)
  have c9_F_ar_depth := c2_F_ar_depth.keep K9q (by simp only [List.mem_cons, List.not_mem_nil, or_false, not_or]; exact ne_ar_amap)
  have c9_F_ar_started := c2_F_ar_started.keep K9q (by simp only [List.mem_cons, List.not_mem_nil, or_false, not_or]; exact ne_ar_amap)
  have c9_F_ar_heldCount := c2_F_ar_heldCount.keep K9q (by simp only [List.mem_cons, List.not_mem_nil, or_false, not_or]; exact ne_ar_amap)
  have c9_F_aL_number := c2_F_aL_number.keep K9q (by simp only [List.mem_cons, List.not_mem_nil, or_false, not_or]; exact ne_aL_amap)
  have c9_F_aL_start := c2_F_aL_start.keep K9q (by simp only [List.mem_cons, List.not_mem_nil, or_false, not_or]; exact ne_aL_amap)
  have c9_F_aL_out := c2_F_aL_out.keep K9q (by simp only [List.mem_cons, List.not_mem_nil, or_false, not_or]; exact ne_aL_amap)
  have c9_V_ahd := c2_V_ahd.keep K9q (by simp only [List.mem_cons, List.not_mem_nil, or_false, not_or]; exact (Ne.symm ne_amap_ahd))
  have Z9 : n0 ≤ T9.heap.size := Nat.le_trans Z2 K9q.1
  have K9 : Keep h0 T9.heap [ar, ahd, amap] := K2.trans K9q (fun x hx => by simp only [List.mem_cons, List.not_mem_nil, or_false] at hx; rcases hx with rfl <;> first | exact (Or.inl (List.mem_of_getElem? (i := 2) rfl)))
  obtain ⟨T10, X10, e10, st10⟩ := own_getFR X9 hx hZ hown (hw _ (List.mem_of_getElem? (i := 84) rfl)) rfl c9_F_aL_out (g := (mkF m 42 #[.val (.ref ar), .val (.long (0 : Int64)), .second, .val (.ref aL)] [(.ref aL)])) rfl rfl (hb hby d11_42)
  obtain ⟨T11, X11, e11, st11⟩ := own_getFR X10 hx hZ hown (hw _ (List.mem_of_getElem? (i := 78) rfl)) e10 c9_F_aL_start (g := (mkF m 50 #[.val (.ref ar), .val (.long (0 : Int64)), .second, .val (.ref aL)] [(.ref aL), (.ref ar)])) rfl rfl (hb hby d11_50)
  obtain ⟨cq12, kq12, q12a, q12b, q12c⟩ := isOf hZ e11 c9_E_ar
  obtain ⟨_, _, ⟨T12, L12, k12, n12⟩, -, X12, ⟨Lc12, hQ12, l12, y12, z12⟩, st12⟩ := X11.virtualBack hx (y := (⟨"com/example/kindgen/kindgen/core/document/RecordOrder", "isLong", "(JJ)Z"⟩ : MethodName)) (z := (⟨"com/example/kindgen/kindgen/core/document/RecordOrder", "isLong", "(JJ)Z"⟩ : MethodName)) hown (mvT hZ (hw _ (List.mem_of_getElem? (i := 159) rfl))) (mvT hZ (hw _ (List.mem_of_getElem? (i := 160) rfl))) (notFace_of_selects (args := #[]) (mvT hZ (hw _ (List.mem_of_getElem? (i := 162) rfl)))) (mvT hZ (hw _ (List.mem_of_getElem? (i := 162) rfl))) (mvT hZ (hw _ (List.mem_of_getElem? (i := 161) rfl))) (by decide) (backOf (W := 0) (rm20 l Z a0 hw [] ar  T9.heap n0 Z9 c9_E_ar c9_F_ar_longBytes) hZ (hw _ (List.mem_of_getElem? (i := 163) rfl)) (hw _ (List.mem_of_getElem? (i := 2) rfl)) (by decide) (by decide)) q12a q12c (g := (mkF m 54 #[.val (.ref ar), .val (.long (0 : Int64)), .second, .val (.ref aL)] [(.long (0 : Int64)), (.long (0 : Int64)), (.ref ar)])) rfl (by rw [hml]; rfl) (Steps.refl _) (argsL := [(.long (0 : Int64)), (.long (0 : Int64))]) (rest := []) (lenOf pd_12 rfl) rfl (by show 2 * 0 + _ ≤ _; exact Nat.le_of_eq rfl) (hb hby d11_54) (fun _ _ => ⟨rfl, e11, (by decide : 2 + 0 ≤ _), (by decide : 20 + 0 ≤ _)⟩)
  dsimp only [Pt.U, Pt.locs, Pt.cells, Pt.slots] at X12 l12 y12 z12 st12 hQ12
  subst l12 y12 z12
  obtain ⟨rfl, N12q, K12q⟩ := hQ12
  have N12 := Fr.app N9 N12q
  have c12_E_ar := c9_E_ar.keep K12q
  have c12_F_ar_outOfOrder := c9_F_ar_outOfOrder.keep K12q (by simp)
  have c12_F_ar_held := c9_F_ar_held.keep K12q (by simp)
  have c12_F_ar_levels := c9_F_ar_levels.keep K12q (by simp)
  have c12_F_ar_longBytes := c9_F_ar_longBytes.keep K12q (by simp)
  have c12_F_ar_depth := c9_F_ar_depth.keep K12q (by simp)
  have c12_F_ar_started := c9_F_ar_started.keep K12q (by simp)
  have c12_F_ar_heldCount := c9_F_ar_heldCount.keep K12q (by simp)
  have c12_F_aL_number := c9_F_aL_number.keep K12q (by simp)
  have c12_E_amap := t9_0.keep K12q
  have c12_V_ahd := c9_V_ahd.keep K12q (by simp)
  have c12_F_amap_table := t9_1.keep K12q (by simp)
  have c12_F_amap_threshold := t9_2.keep K12q (by simp)
  have c12_F_amap_modCount := t9_3.keep K12q (by simp)
  have c12_F_amap_size := t9_4.keep K12q (by simp)
  have c12_F_amap_loadFactor := t9_5.keep K12q (by simp)
  have c12_V_b4_2_2_3_9 := t9_6.keep K12q (by simp)
  have c12_E_b1_5_2_3_9 := t9_10.keep K12q
  have c12_F_b1_5_2_3_9_hash := t9_11.keep K12q (by simp)
  have c12_F_b1_5_2_3_9_key := t9_12.keep K12q (by simp)
  have c12_F_b1_5_2_3_9_value := t9_13.keep K12q (by simp)
  have c12_F_b1_5_2_3_9_next := t9_14.keep K12q (by simp)
  have K12 : Keep h0 T12.heap [ar, ahd, amap] := K9.trans K12q (fun x hx => by cases hx)
  obtain ⟨T13, X13, e13, st13⟩ := getF X12 hx hZ hown (host := "") (Or.inl (hw _ (List.mem_of_getElem? (i := 164) rfl))) Via.refl rfl c12_F_ar_heldCount (g := (mkF m 61 #[.val (.ref ar), .val (.long (0 : Int64)), .second, .val (.ref aL)] [(.ref ar)])) rfl rfl (hb hby d11_61)
  obtain ⟨T14, X14, e14, st14⟩ := getF X13 hx hZ hown (host := "") (Or.inl (hw _ (List.mem_of_getElem? (i := 164) rfl))) Via.refl e13 c12_F_ar_heldCount (g := (mkF m 99 #[.val (.ref ar), .val (.long (0 : Int64)), .second, .val (.ref aL)] [(.ref ar)])) rfl rfl (hb hby d11_99)
  obtain ⟨T15, X15, e15, st15⟩ := getF X14 hx hZ hown (host := "") (Or.inl (hw _ (List.mem_of_getElem? (i := 50) rfl))) Via.refl e14 c12_F_ar_held (g := (mkF m 103 #[.val (.ref ar), .val (.long (0 : Int64)), .second, .val (.ref aL)] [(.ref ar), (.int (0 : Int32))])) rfl rfl (hb hby d11_103)
  obtain ⟨cl_16, Ar_16, -, S_16, N_16, -, -⟩ := id c12_V_ahd
  obtain ⟨T17, X17, e17, st17⟩ := getF X15 hx hZ hown (host := "") (Or.inl (hw _ (List.mem_of_getElem? (i := 50) rfl))) Via.refl e15 c12_F_ar_held (g := (mkF m 128 #[.val (.ref ar), .val (.long (0 : Int64)), .second, .val (.ref aL)] [(.ref ar)])) rfl rfl (hb hby d11_128)
  obtain ⟨T18, X18, e18, st18⟩ := getF X17 hx hZ hown (host := "") (Or.inl (hw _ (List.mem_of_getElem? (i := 164) rfl))) Via.refl e17 c12_F_ar_heldCount (g := (mkF m 132 #[.val (.ref ar), .val (.long (0 : Int64)), .second, .val (.ref aL)] [(.ref ar), (.ref ahd)])) rfl rfl (hb hby d11_132)
  obtain ⟨T19, X19, e19, st19⟩ := own_getFR X18 hx hZ hown (hw _ (List.mem_of_getElem? (i := 74) rfl)) e18 c12_F_aL_number (g := (mkF m 136 #[.val (.ref ar), .val (.long (0 : Int64)), .second, .val (.ref aL)] [(.ref aL), (.int (0 : Int32)), (.ref ahd)])) rfl rfl (hb hby d11_136)
  obtain ⟨cl_20, Ar_20, q_20, S_20, N_20, H_20, G_20⟩ := id c12_V_ahd
  have hin_20 : ¬ ((0 : Int32) < 0 ∨ cl_20.slots.size ≤ ((0 : Int32)).toNatClampNeg) := inb_of S_20 ⟨by decide, by decide⟩
  obtain ⟨T21, h21, X21, e21, W21, st21⟩ := stI X19 hx hZ e19 Ar_20 (j := (0 : Int32)) hin_20 (g := (mkF m 139 #[.val (.ref ar), .val (.long (0 : Int64)), .second, .val (.ref aL)] [(.int (0 : Int32)), (.int (0 : Int32)), (.ref ahd)])) rfl rfl (hb hby d11_139)
  have V21 : Arv Z h21 ahd kh .int (8 : Int32) [(.int (0 : Int32)), (.int (0 : Int32)), (.int (0 : Int32)), (.int (0 : Int32)), (.int (0 : Int32)), (.int (0 : Int32)), (.int (0 : Int32)), (.int (0 : Int32))] (.int (0 : Int32)) := Arv.set Ar_20 q_20 S_20 N_20 H_20 G_20 rfl W21 0 rfl (Nat.le_of_ble_eq_true rfl)
  have c21_E_ar := c12_E_ar.wr W21
  have c21_F_ar_outOfOrder := c12_F_ar_outOfOrder.other W21 (Or.inl ne_ar_ahd)
  have c21_F_ar_held := c12_F_ar_held.other W21 (Or.inl ne_ar_ahd)
  have c21_F_ar_levels := c12_F_ar_levels.other W21 (Or.inl ne_ar_ahd)
  have c21_F_ar_longBytes := c12_F_ar_longBytes.other W21 (Or.inl ne_ar_ahd)
  have c21_F_ar_depth := c12_F_ar_depth.other W21 (Or.inl ne_ar_ahd)
  have c21_F_ar_started := c12_F_ar_started.other W21 (Or.inl ne_ar_ahd)
  have c21_F_ar_heldCount := c12_F_ar_heldCount.other W21 (Or.inl ne_ar_ahd)
  have c21_E_amap := c12_E_amap.wr W21
  have c21_F_amap_table := c12_F_amap_table.other W21 (Or.inl ne_amap_ahd)
  have c21_F_amap_threshold := c12_F_amap_threshold.other W21 (Or.inl ne_amap_ahd)
  have c21_F_amap_modCount := c12_F_amap_modCount.other W21 (Or.inl ne_amap_ahd)
  have c21_F_amap_size := c12_F_amap_size.other W21 (Or.inl ne_amap_ahd)
  have c21_F_amap_loadFactor := c12_F_amap_loadFactor.other W21 (Or.inl ne_amap_ahd)
  have c21_V_b4_2_2_3_9 := c12_V_b4_2_2_3_9.other W21 (Ne.symm nf9_ahd_b4_2_2_3_9)
  have c21_E_b1_5_2_3_9 := c12_E_b1_5_2_3_9.wr W21
  have c21_F_b1_5_2_3_9_hash := c12_F_b1_5_2_3_9_hash.other W21 (Or.inl (Ne.symm nf9_ahd_b1_5_2_3_9))
  have c21_F_b1_5_2_3_9_key := c12_F_b1_5_2_3_9_key.other W21 (Or.inl (Ne.symm nf9_ahd_b1_5_2_3_9))
  have c21_F_b1_5_2_3_9_value := c12_F_b1_5_2_3_9_value.other W21 (Or.inl (Ne.symm nf9_ahd_b1_5_2_3_9))
  have c21_F_b1_5_2_3_9_next := c12_F_b1_5_2_3_9_next.other W21 (Or.inl (Ne.symm nf9_ahd_b1_5_2_3_9))
  have N21 := Fr.snoc X21 N12 g_ahd
  have K21 : Keep h0 h21 [ar, ahd, amap] := K12.wr W21 (Or.inl (List.mem_of_getElem? (i := 1) rfl))
  obtain ⟨T22, X22, e22, st22⟩ := getF X21 hx hZ hown (host := "") (Or.inl (hw _ (List.mem_of_getElem? (i := 164) rfl))) Via.refl e21 c21_F_ar_heldCount (g := (mkF m 142 #[.val (.ref ar), .val (.long (0 : Int64)), .second, .val (.ref aL)] [(.ref ar), (.ref ar)])) rfl rfl (hb hby d11_142)
  obtain ⟨T23, h23, X23, e23, W23, st23⟩ := putF X22 hx hZ hown (host := "") (Or.inl (hw _ (List.mem_of_getElem? (i := 164) rfl))) Via.refl e22 c21_F_ar_heldCount c21_E_ar (Or.inl (hw _ (List.mem_of_getElem? (i := 165) rfl))) (hw _ (List.mem_of_getElem? (i := 1) rfl)) (ty := .int) (by decide) rfl rfl (g := (mkF m 147 #[.val (.ref ar), .val (.long (0 : Int64)), .second, .val (.ref aL)] [(.int (1 : Int32)), (.ref ar)])) rfl rfl (hb hby d11_147)
  have c23_E_ar := c21_E_ar.wr W23
  have c23_F_ar_outOfOrder := c21_F_ar_outOfOrder.other W23 (Or.inr (slot_ne (Or.inr (hw _ (List.mem_of_getElem? (i := 48) rfl))) (Or.inl (hw _ (List.mem_of_getElem? (i := 165) rfl))) (by decide) (t := (.object "java/util/Set")) (t' := .int) (by decide) (by decide)))
  have c23_F_ar_held := c21_F_ar_held.other W23 (Or.inr (slot_ne (Or.inl (hw _ (List.mem_of_getElem? (i := 51) rfl))) (Or.inl (hw _ (List.mem_of_getElem? (i := 165) rfl))) (by decide) (t := (.array .int)) (t' := .int) (by decide) (by decide)))
  have c23_F_ar_levels := c21_F_ar_levels.other W23 (Or.inr (slot_ne (Or.inl (hw _ (List.mem_of_getElem? (i := 55) rfl))) (Or.inl (hw _ (List.mem_of_getElem? (i := 165) rfl))) (by decide) (t := (.array (.object "com/example/kindgen/kindgen/core/document/RecordOrder$Level"))) (t' := .int) (by decide) (by decide)))
  have c23_F_ar_longBytes := c21_F_ar_longBytes.other W23 (Or.inr (slot_ne (Or.inr (hw _ (List.mem_of_getElem? (i := 57) rfl))) (Or.inl (hw _ (List.mem_of_getElem? (i := 165) rfl))) (by decide) (t := .long) (t' := .int) (by decide) (by decide)))
  have c23_F_ar_depth := c21_F_ar_depth.other W23 (Or.inr (slot_ne (Or.inl (hw _ (List.mem_of_getElem? (i := 64) rfl))) (Or.inl (hw _ (List.mem_of_getElem? (i := 165) rfl))) (by decide) (t := .int) (t' := .int) (by decide) (by decide)))
  have c23_F_ar_started := c21_F_ar_started.other W23 (Or.inr (slot_ne (Or.inl (hw _ (List.mem_of_getElem? (i := 73) rfl))) (Or.inl (hw _ (List.mem_of_getElem? (i := 165) rfl))) (by decide) (t := .int) (t' := .int) (by decide) (by decide)))
  have c23_F_ar_heldCount := c21_F_ar_heldCount.same W23
  have c23_E_amap := c21_E_amap.wr W23
  have c23_V_ahd := V21.other W23 (Ne.symm ne_ar_ahd)
  have c23_F_amap_table := c21_F_amap_table.other W23 (Or.inl (Ne.symm ne_ar_amap))
  have c23_F_amap_threshold := c21_F_amap_threshold.other W23 (Or.inl (Ne.symm ne_ar_amap))
  have c23_F_amap_modCount := c21_F_amap_modCount.other W23 (Or.inl (Ne.symm ne_ar_amap))
  have c23_F_amap_size := c21_F_amap_size.other W23 (Or.inl (Ne.symm ne_ar_amap))
  have c23_F_amap_loadFactor := c21_F_amap_loadFactor.other W23 (Or.inl (Ne.symm ne_ar_amap))
  have c23_V_b4_2_2_3_9 := c21_V_b4_2_2_3_9.other W23 (Ne.symm nf9_ar_b4_2_2_3_9)
  have c23_E_b1_5_2_3_9 := c21_E_b1_5_2_3_9.wr W23
  have c23_F_b1_5_2_3_9_hash := c21_F_b1_5_2_3_9_hash.other W23 (Or.inl (Ne.symm nf9_ar_b1_5_2_3_9))
  have c23_F_b1_5_2_3_9_key := c21_F_b1_5_2_3_9_key.other W23 (Or.inl (Ne.symm nf9_ar_b1_5_2_3_9))
  have c23_F_b1_5_2_3_9_value := c21_F_b1_5_2_3_9_value.other W23 (Or.inl (Ne.symm nf9_ar_b1_5_2_3_9))
  have c23_F_b1_5_2_3_9_next := c21_F_b1_5_2_3_9_next.other W23 (Or.inl (Ne.symm nf9_ar_b1_5_2_3_9))
  have N23 := Fr.snoc X23 N21 g_ar
  have K23 : Keep h0 h23 [ar, ahd, amap] := K21.wr W23 (Or.inl (List.mem_of_getElem? (i := 0) rfl))
  obtain ⟨fs, hr, hrun, hended, hW, hsame⟩ := X23.leave (v := none) (fun _ => rfl)
  refine ⟨_, _, pre0 _ ?_, hrun, hended, _, _, rfl, ?_, ⟨_, rfl⟩, hW, hsame.mono (by decide) (by decide)⟩
  · show Steps p.tables e below (s₁.setTop (mkF m 0 #[.val (.ref ar), .val (.long (0 : Int64)), .second, .unset] [])) _
    refine XS.aloadN X0.here hx rfl (hb hby d11_0) rfl rfl ?_
    show Steps p.tables e below (s₁.setTop (mkF m 1 #[.val (.ref ar), .val (.long (0 : Int64)), .second, .unset] [(.ref ar)])) _
    refine XS.dup X0.here hx rfl (hb hby d11_1) rfl rfl ?_
    show Steps p.tables e below (s₁.setTop (mkF m 2 #[.val (.ref ar), .val (.long (0 : Int64)), .second, .unset] [(.ref ar), (.ref ar)])) _
    refine st1 _ ?_
    refine XS.iconst X1.here hx rfl (hb hby d11_5) ?_
    show Steps p.tables e below (T1.setTop (mkF m 6 #[.val (.ref ar), .val (.long (0 : Int64)), .second, .unset] [(.int (1 : Int32)), (.int (1 : Int32)), (.ref ar)])) _
    refine XS.isub X1.here hx rfl (hb hby d11_6) rfl ?_
    show Steps p.tables e below (T1.setTop (mkF m 7 #[.val (.ref ar), .val (.long (0 : Int64)), .second, .unset] [(.int (0 : Int32)), (.ref ar)])) _
    refine st2 _ ?_
    refine XS.aloadN X2.here hx rfl (hb hby d11_10) rfl rfl ?_
    show Steps p.tables e below (T2.setTop (mkF m 11 #[.val (.ref ar), .val (.long (0 : Int64)), .second, .unset] [(.ref ar)])) _
    refine st3 _ ?_
    refine XS.aloadN X3.here hx rfl (hb hby d11_14) rfl rfl ?_
    show Steps p.tables e below (T3.setTop (mkF m 15 #[.val (.ref ar), .val (.long (0 : Int64)), .second, .unset] [(.ref ar), (.ref alv)])) _
    refine st4 _ ?_
    show Steps p.tables e below (T4.setTop (mkF m 18 #[.val (.ref ar), .val (.long (0 : Int64)), .second, .unset] [(.int (0 : Int32)), (.ref alv)])) _
    refine X4.aaload hx (j := (0 : Int32)) (v := (.ref aL)) (by rw [e4]; exact Ar_5.1) (State.isArrayOf_alike hZ.alike Ar_5.2.1) rfl Ar_5.2.2 hin_5 hat_5 (g := (mkF m 18 #[.val (.ref ar), .val (.long (0 : Int64)), .second, .unset] [(.int (0 : Int32)), (.ref alv)])) rfl rfl (hb hby d11_18) _ ?_
    show Steps p.tables e below (T4.setTop (mkF m 19 #[.val (.ref ar), .val (.long (0 : Int64)), .second, .unset] [(.ref aL)])) _
    refine XS.astoreN X4.here hx rfl (hb hby d11_19) rfl rfl (l' := #[.val (.ref ar), .val (.long (0 : Int64)), .second, .val (.ref aL)]) rfl ?_
    refine XS.aloadN X4.here hx rfl (hb hby d11_20) rfl rfl ?_
    show Steps p.tables e below (T4.setTop (mkF m 21 #[.val (.ref ar), .val (.long (0 : Int64)), .second, .val (.ref aL)] [(.ref aL)])) _
    refine st6 _ ?_
    show Steps p.tables e below (T6.setTop (mkF m 24 #[.val (.ref ar), .val (.long (0 : Int64)), .second, .val (.ref aL)] [(.int ou)])) _
    refine XS.ifNo X6.here hx rfl (hb hby d11_24) rfl ((if0 _ _).trans (feq ho).1) ?_
    refine XS.aloadN X6.here hx rfl (hb hby d11_27) rfl rfl ?_
    show Steps p.tables e below (T6.setTop (mkF m 28 #[.val (.ref ar), .val (.long (0 : Int64)), .second, .val (.ref aL)] [(.ref ar)])) _
    refine st7 _ ?_
    refine XS.aloadN X7.here hx rfl (hb hby d11_31) rfl rfl ?_
    show Steps p.tables e below (T7.setTop (mkF m 32 #[.val (.ref ar), .val (.long (0 : Int64)), .second, .val (.ref aL)] [(.ref aL), (.ref aset)])) _
    refine st8 _ ?_
    show Steps p.tables e below (T8.setTop (mkF m 35 #[.val (.ref ar), .val (.long (0 : Int64)), .second, .val (.ref aL)] [.null, (.ref aset)])) _
    refine st9.trans ?_
    show Steps p.tables e below (T9.setTop (mkF m 40 #[.val (.ref ar), .val (.long (0 : Int64)), .second, .val (.ref aL)] [(.int (1 : Int32))])) _
    refine XS.pop X9.here hx rfl (hb hby d11_40) rfl rfl ?_
    refine XS.aloadN X9.here hx rfl (hb hby d11_41) rfl rfl ?_
    show Steps p.tables e below (T9.setTop (mkF m 42 #[.val (.ref ar), .val (.long (0 : Int64)), .second, .val (.ref aL)] [(.ref aL)])) _
    refine st10 _ ?_
    show Steps p.tables e below (T10.setTop (mkF m 45 #[.val (.ref ar), .val (.long (0 : Int64)), .second, .val (.ref aL)] [(.int ou)])) _
    refine XS.ifNo X10.here hx rfl (hb hby d11_45) rfl ((if0 _ _).trans (feq ho).1) ?_
    refine XS.aloadN X10.here hx rfl (hb hby d11_48) rfl rfl ?_
    refine XS.aloadN X10.here hx rfl (hb hby d11_49) rfl rfl ?_
    show Steps p.tables e below (T10.setTop (mkF m 50 #[.val (.ref ar), .val (.long (0 : Int64)), .second, .val (.ref aL)] [(.ref aL), (.ref ar)])) _
    refine st11 _ ?_
    refine XS.lloadN X11.here hx rfl (hb hby d11_53) rfl ?_
    show Steps p.tables e below (T11.setTop (mkF m 54 #[.val (.ref ar), .val (.long (0 : Int64)), .second, .val (.ref aL)] [(.long (0 : Int64)), (.long (0 : Int64)), (.ref ar)])) _
    refine st12.trans ?_
    show Steps p.tables e below (T12.setTop (mkF m 57 #[.val (.ref ar), .val (.long (0 : Int64)), .second, .val (.ref aL)] [(.int (1 : Int32))])) _
    refine XS.ifNo X12.here hx rfl (hb hby d11_57) rfl ((if0 _ _).trans (feq (by decide : ¬ ((1 : Int32) = (0 : Int32)))).1) ?_
    refine XS.aloadN X12.here hx rfl (hb hby d11_60) rfl rfl ?_
    show Steps p.tables e below (T12.setTop (mkF m 61 #[.val (.ref ar), .val (.long (0 : Int64)), .second, .val (.ref aL)] [(.ref ar)])) _
    refine st13 _ ?_
    show Steps p.tables e below (T13.setTop (mkF m 64 #[.val (.ref ar), .val (.long (0 : Int64)), .second, .val (.ref aL)] [(.int (0 : Int32))])) _
    refine XS.ifYes X13.here hx rfl (pc0 := 64) (pc' := 98) rfl (hb hby d11_64) rfl ((if0 _ _).trans (flt (by decide : ¬ ((0 : Int32) < (0 : Int32)))).2.2.2) (by decide) (by decide) ?_
    refine XS.aloadN X13.here hx rfl (hb hby d11_98) rfl rfl ?_
    show Steps p.tables e below (T13.setTop (mkF m 99 #[.val (.ref ar), .val (.long (0 : Int64)), .second, .val (.ref aL)] [(.ref ar)])) _
    refine st14 _ ?_
    refine XS.aloadN X14.here hx rfl (hb hby d11_102) rfl rfl ?_
    show Steps p.tables e below (T14.setTop (mkF m 103 #[.val (.ref ar), .val (.long (0 : Int64)), .second, .val (.ref aL)] [(.ref ar), (.int (0 : Int32))])) _
    refine st15 _ ?_
    show Steps p.tables e below (T15.setTop (mkF m 106 #[.val (.ref ar), .val (.long (0 : Int64)), .second, .val (.ref aL)] [(.ref ahd), (.int (0 : Int32))])) _
    refine X15.arraylength hx (by rw [e15]; exact Ar_16.1) (State.isArrayOf_alike hZ.alike Ar_16.2.1) (g := (mkF m 106 #[.val (.ref ar), .val (.long (0 : Int64)), .second, .val (.ref aL)] [(.ref ahd), (.int (0 : Int32))])) rfl rfl (hb hby d11_106) _ ?_
    rw [len_of S_16 N_16]
    show Steps p.tables e below (T15.setTop (mkF m 107 #[.val (.ref ar), .val (.long (0 : Int64)), .second, .val (.ref aL)] [(.int (8 : Int32)), (.int (0 : Int32))])) _
    refine XS.icmpYes X15.here hx rfl (pc0 := 107) (pc' := 127) rfl (hb hby d11_107) rfl (feq (by decide : ¬ ((0 : Int32) = (8 : Int32)))).2 (by decide) (by decide) ?_
    refine XS.aloadN X15.here hx rfl (hb hby d11_127) rfl rfl ?_
    show Steps p.tables e below (T15.setTop (mkF m 128 #[.val (.ref ar), .val (.long (0 : Int64)), .second, .val (.ref aL)] [(.ref ar)])) _
    refine st17 _ ?_
    refine XS.aloadN X17.here hx rfl (hb hby d11_131) rfl rfl ?_
    show Steps p.tables e below (T17.setTop (mkF m 132 #[.val (.ref ar), .val (.long (0 : Int64)), .second, .val (.ref aL)] [(.ref ar), (.ref ahd)])) _
    refine st18 _ ?_
    refine XS.aloadN X18.here hx rfl (hb hby d11_135) rfl rfl ?_
    show Steps p.tables e below (T18.setTop (mkF m 136 #[.val (.ref ar), .val (.long (0 : Int64)), .second, .val (.ref aL)] [(.ref aL), (.int (0 : Int32)), (.ref ahd)])) _
    refine st19 _ ?_
    show Steps p.tables e below (T19.setTop (mkF m 139 #[.val (.ref ar), .val (.long (0 : Int64)), .second, .val (.ref aL)] [(.int (0 : Int32)), (.int (0 : Int32)), (.ref ahd)])) _
    refine st21 _ ?_
    refine XS.aloadN X21.here hx rfl (hb hby d11_140) rfl rfl ?_
    show Steps p.tables e below (T21.setTop (mkF m 141 #[.val (.ref ar), .val (.long (0 : Int64)), .second, .val (.ref aL)] [(.ref ar)])) _
    refine XS.dup X21.here hx rfl (hb hby d11_141) rfl rfl ?_
    show Steps p.tables e below (T21.setTop (mkF m 142 #[.val (.ref ar), .val (.long (0 : Int64)), .second, .val (.ref aL)] [(.ref ar), (.ref ar)])) _
    refine st22 _ ?_
    refine XS.iconst X22.here hx rfl (hb hby d11_145) ?_
    refine XS.iadd X22.here hx rfl (hb hby d11_146) rfl ?_
    show Steps p.tables e below (T22.setTop (mkF m 147 #[.val (.ref ar), .val (.long (0 : Int64)), .second, .val (.ref aL)] [(.int (1 : Int32)), (.ref ar)])) _
    refine st23 _ ?_
    show Steps p.tables e below (T23.setTop (mkF m 150 #[.val (.ref ar), .val (.long (0 : Int64)), .second, .val (.ref aL)] [])) _
    exact X23.returnOut hx Bd.returns (hb hby d11_150) hr
  · show Q11b0 Z ar aset ahd alv kl aL ls kp ou kh sd u1 amap apr h0 n0 _ T23.heap _
    rw [e23]
    exact ⟨b4_2_2_3_9, k4_2_2_3_9, b1_5_2_3_9, rfl, N23, K23, c23_E_ar, c23_F_ar_outOfOrder, c23_F_ar_held, c23_F_ar_levels, c23_F_ar_longBytes, c23_F_ar_depth, c23_F_ar_started, c23_F_ar_heldCount, c23_V_ahd, c23_E_amap, c23_F_amap_table, c23_F_amap_threshold, c23_F_amap_modCount, c23_F_amap_size, c23_F_amap_loadFactor, c23_V_b4_2_2_3_9, t9_7, t9_8, sz_b4_2_2_3_9, c23_E_b1_5_2_3_9, c23_F_b1_5_2_3_9_hash, c23_F_b1_5_2_3_9_key, c23_F_b1_5_2_3_9_value, c23_F_b1_5_2_3_9_next, t9_15, sz_b1_5_2_3_9, t9_17⟩
def Q11c0 (Z : State) (ar : Addr) (aset : Addr) (ahd : Addr) (alv : Addr) (kl : ClassId) (aL : Addr) (ls : Int32) (kp : Int32) (ou : Int32) (kh : ClassId) (sd : Int32) (u1 : Value) (amap : Addr) (apr : Addr) (atb : Addr) (and0 : Addr) (kt : ClassId) (h0 : Heap) (n0 : Nat) (v : Option Value) (h : Heap) (L : List Loc) : Prop := v = none ∧ Fr n0 L ∧ Keep h0 h [ar, ahd, and0] ∧ Exa Z h ar "com/example/kindgen/kindgen/core/document/RecordOrder" ∧ Fld Z h ar "com/example/kindgen/kindgen/core/document/RecordOrder" "outOfOrder" "Ljava/util/Set;" (.ref aset) ∧ Fld Z h ar "com/example/kindgen/kindgen/core/document/RecordOrder" "held" "[I" (.ref ahd) ∧ Fld Z h ar "com/example/kindgen/kindgen/core/document/RecordOrder" "levels" "[Lcom/example/kindgen/kindgen/core/document/RecordOrder$Level;" (.ref alv) ∧ Fld Z h ar "com/example/kindgen/kindgen/core/document/RecordOrder" "longBytes" "J" (.long (0 : Int64)) ∧ Fld Z h ar "com/example/kindgen/kindgen/core/document/RecordOrder" "depth" "I" (.int (0 : Int32)) ∧ Fld Z h ar "com/example/kindgen/kindgen/core/document/RecordOrder" "started" "I" (.int sd) ∧ Fld Z h ar "com/example/kindgen/kindgen/core/document/RecordOrder" "heldCount" "I" (.int (1 : Int32)) ∧ Arv Z h ahd kh .int (8 : Int32) [(.int (0 : Int32)), (.int (0 : Int32)), (.int (0 : Int32)), (.int (0 : Int32)), (.int (0 : Int32)), (.int (0 : Int32)), (.int (0 : Int32)), (.int (0 : Int32))] (.int (0 : Int32)) ∧ Exa Z h and0 "java/util/HashMap$Node" ∧ Fld Z h and0 "java/util/HashMap$Node" "hash" "I" (.int (0 : Int32)) ∧ Fld Z h and0 "java/util/HashMap$Node" "key" "Ljava/lang/Object;" .null ∧ Fld Z h and0 "java/util/HashMap$Node" "value" "Ljava/lang/Object;" (.ref apr) ∧ Fld Z h and0 "java/util/HashMap$Node" "next" "Ljava/util/HashMap$Node;" .null
set_option maxRecDepth 65536 in
set_option maxHeartbeats 40000000 in
theorem rm11c0 (l : Launch) (Z : State) (a0 : Array Value) (hw : ∀ d ∈ tables_1, d.before a0 Z = true) (ws : List Jvm.Cond) (ar : Addr) (aset : Addr) (ahd : Addr) (alv : Addr) (kl : ClassId) (aL : Addr) (ls : Int32) (kp : Int32) (ou : Int32) (kh : ClassId) (sd : Int32) (u1 : Value) (amap : Addr) (apr : Addr) (atb : Addr) (and0 : Addr) (kt : ClassId) (h0 : Heap) (n0 : Nat) (Z0 : n0 ≤ h0.size) (ho : ¬ ou = 0) (S_PRESENT : Sta Z h0 "java/util/HashSet" "PRESENT" "Ljava/lang/Object;" (.ref apr)) (E_ar : Exa Z h0 ar "com/example/kindgen/kindgen/core/document/RecordOrder") (F_ar_outOfOrder : Fld Z h0 ar "com/example/kindgen/kindgen/core/document/RecordOrder" "outOfOrder" "Ljava/util/Set;" (.ref aset)) (F_ar_held : Fld Z h0 ar "com/example/kindgen/kindgen/core/document/RecordOrder" "held" "[I" (.ref ahd)) (F_ar_levels : Fld Z h0 ar "com/example/kindgen/kindgen/core/document/RecordOrder" "levels" "[Lcom/example/kindgen/kindgen/core/document/RecordOrder$Level;" (.ref alv)) (F_ar_longBytes : Fld Z h0 ar "com/example/kindgen/kindgen/core/document/RecordOrder" "longBytes" "J" (.long (0 : Int64))) (F_ar_depth : Fld Z h0 ar "com/example/kindgen/kindgen/core/document/RecordOrder" "depth" "I" (.int (1 : Int32))) (F_ar_started : Fld Z h0 ar "com/example/kindgen/kindgen/core/document/RecordOrder" "started" "I" (.int sd)) (F_ar_heldCount : Fld Z h0 ar "com/example/kindgen/kindgen/core/document/RecordOrder" "heldCount" "I" (.int (1 : Int32))) (E_aL : Exa Z h0 aL "com/example/kindgen/kindgen/core/document/RecordOrder$Level") (F_aL_number : Fld Z h0 aL "com/example/kindgen/kindgen/core/document/RecordOrder$Level" "number" "I" (.int (0 : Int32))) (F_aL_record : Fld Z h0 aL "com/example/kindgen/kindgen/core/document/RecordOrder$Level" "record" "Lcom/example/kindgen/kindgen/runtime/RecordShape;" .null) (F_aL_start : Fld Z h0 aL "com/example/kindgen/kindgen/core/document/RecordOrder$Level" "start" "J" (.long (0 : Int64))) (F_aL_lastDeclared : Fld Z h0 aL "com/example/kindgen/kindgen/core/document/RecordOrder$Level" "lastDeclared" "I" (.int ls)) (F_aL_kept : Fld Z h0 aL "com/example/kindgen/kindgen/core/document/RecordOrder$Level" "kept" "Z" (.int kp)) (F_aL_out : Fld Z h0 aL "com/example/kindgen/kindgen/core/document/RecordOrder$Level" "out" "Z" (.int ou)) (E_aset : Exa Z h0 aset "java/util/HashSet") (F_aset_map : Fld Z h0 aset "java/util/HashSet" "map" "Ljava/util/HashMap;" (.ref amap)) (E_amap : Exa Z h0 amap "java/util/HashMap") (F_amap_table : Fld Z h0 amap "java/util/HashMap" "table" "[Ljava/util/HashMap$Node;" (.ref atb)) (F_amap_threshold : Fld Z h0 amap "java/util/HashMap" "threshold" "I" (.int (12 : Int32))) (F_amap_modCount : Fld Z h0 amap "java/util/HashMap" "modCount" "I" (.int (1 : Int32))) (F_amap_size : Fld Z h0 amap "java/util/HashMap" "size" "I" (.int (1 : Int32))) (F_amap_loadFactor : Fld Z h0 amap "java/util/HashMap" "loadFactor" "F" (.float (1061158912 : UInt32))) (E_and0 : Exa Z h0 and0 "java/util/HashMap$Node") (F_and0_hash : Fld Z h0 and0 "java/util/HashMap$Node" "hash" "I" (.int (0 : Int32))) (F_and0_key : Fld Z h0 and0 "java/util/HashMap$Node" "key" "Ljava/lang/Object;" .null) (F_and0_value : Fld Z h0 and0 "java/util/HashMap$Node" "value" "Ljava/lang/Object;" (.ref apr)) (F_and0_next : Fld Z h0 and0 "java/util/HashMap$Node" "next" "Ljava/util/HashMap$Node;" .null) (V_alv : Arv Z h0 alv kl (.object "com/example/kindgen/kindgen/core/document/RecordOrder$Level") (16 : Int32) [(.ref aL), u1, .null, .null, .null, .null, .null, .null, .null, .null, .null, .null, .null, .null, .null, .null] .null) (V_ahd : Arv Z h0 ahd kh .int (8 : Int32) [(.int (1 : Int32)), (.int (0 : Int32)), (.int (0 : Int32)), (.int (0 : Int32)), (.int (0 : Int32)), (.int (0 : Int32)), (.int (0 : Int32)), (.int (0 : Int32))] (.int (0 : Int32))) (V_atb : Arv Z h0 atb kt (.object "java/util/HashMap$Node") (16 : Int32) [(.ref and0), .null, .null, .null, .null, .null, .null, .null, .null, .null, .null, .null, .null, .null, .null, .null] .null) (Ov_alv : Ovr Z kl "com/example/kindgen/kindgen/core/document/RecordOrder$Level") (Ov_atb : Ovr Z kt "java/util/HashMap$Node") (ne_ar_aL : ar ≠ aL) (ne_ar_aset : ar ≠ aset) (ne_ar_amap : ar ≠ amap) (ne_ar_and0 : ar ≠ and0) (ne_ar_alv : ar ≠ alv) (ne_ar_ahd : ar ≠ ahd) (ne_ar_atb : ar ≠ atb) (ne_aL_aset : aL ≠ aset) (ne_aL_amap : aL ≠ amap) (ne_aL_and0 : aL ≠ and0) (ne_aL_alv : aL ≠ alv) (ne_aL_ahd : aL ≠ ahd) (ne_aL_atb : aL ≠ atb) (ne_aset_amap : aset ≠ amap) (ne_aset_and0 : aset ≠ and0) (ne_aset_alv : aset ≠ alv) (ne_aset_ahd : aset ≠ ahd) (ne_aset_atb : aset ≠ atb) (ne_amap_and0 : amap ≠ and0) (ne_amap_alv : amap ≠ alv) (ne_amap_ahd : amap ≠ ahd) (ne_amap_atb : amap ≠ atb) (ne_and0_alv : and0 ≠ alv) (ne_and0_ahd : and0 ≠ ahd) (ne_and0_atb : and0 ≠ atb) (ne_alv_ahd : alv ≠ ahd) (ne_alv_atb : alv ≠ atb) (ne_ahd_atb : ahd ≠ atb) (g_ar : n0 ≤ ar) (g_ahd : n0 ≤ ahd) (g_and0 : n0 ≤ and0) :
    MetFree l (⟨"com/example/kindgen/kindgen/core/document/RecordOrder", "end", "(J)V"⟩ : MethodName) (head1 (Jvm.Cond.code (⟨"com/example/kindgen/kindgen/core/document/RecordOrder", "end", "(J)V"⟩ : MethodName) prog_72_method_6_code 4 none :: ws) ({ frames := 4, cells := 0, slots := 0, locals := 64 } : Room)) (fun a U => a = #[(.ref ar), (.long (0 : Int64))] ∧ Z.Warmed39 U.vm ∧ U.heap = h0) (fun _ _ _ _ _ => True) (fun _ U o U' => ∃ v L, o = .returned v ∧ Q11c0 Z ar aset ahd alv kl aL ls kp ou kh sd u1 amap apr atb and0 kt h0 n0 v U'.heap L ∧ FrameEnd U o U' L ({ frames := 4, cells := 0, slots := 0, locals := 64 } : Room).cells ({ frames := 4, cells := 0, slots := 0, locals := 64 } : Room).slots) := by
  refine MetFree.of_bodySF (plainFor_of_name pn_11) hisR ?_
  intro p e s m args below meth c s₁ Bd hml0 hP hK
  obtain ⟨rfl, hZ, hh⟩ := hP
  have hx := Bd.exec
  have hby := Bd.bytes
  have hml : c.maxLocals = 4 := hml0
  have hown : s.vm.findClass "com/example/kindgen/kindgen/core/document/RecordOrder" = some m.cls := findClass_of_methodNamed Bd.named
  have X0 : Stand p l e ({ frames := 4, cells := 0, slots := 0, locals := 64 } : Room) s m #[(.ref ar), (.long (0 : Int64))] below meth c s₁ [] 0 0 := Stand.of_body Bd
  have e0 : s₁.heap = h0 := by rw [← hh, Bd.state]; rfl
  have N0 := Fr.nil n0
  have pre0 : ∀ t, Steps p.tables e below (s₁.setTop (mkF m 0 #[.val (.ref ar), .val (.long (0 : Int64)), .second, .unset] [])) t → Steps p.tables e below (s₁.setTop (entryFrame m #[(.ref ar), (.long (0 : Int64))] 4)) t := fun t k => castTop (ef_11 m ar (0 : Int64)) k
  have K0 : Keep h0 h0 [ar, ahd, and0] := Keep.refl h0 _
  obtain ⟨T1, X1, e1, st1⟩ := getF X0 hx hZ hown (host := "") (Or.inl (hw _ (List.mem_of_getElem? (i := 63) rfl))) Via.refl e0 F_ar_depth (g := (mkF m 2 #[.val (.ref ar), .val (.long (0 : Int64)), .second, .unset] [(.ref ar), (.ref ar)])) rfl rfl (hb hby d11_2)
  obtain ⟨T2, h2, X2, e2, W2, st2⟩ := putF X1 hx hZ hown (host := "") (Or.inl (hw _ (List.mem_of_getElem? (i := 63) rfl))) Via.refl e1 F_ar_depth E_ar (Or.inl (hw _ (List.mem_of_getElem? (i := 64) rfl))) (hw _ (List.mem_of_getElem? (i := 1) rfl)) (ty := .int) (by decide) rfl rfl (g := (mkF m 7 #[.val (.ref ar), .val (.long (0 : Int64)), .second, .unset] [(.int (0 : Int32)), (.ref ar)])) rfl rfl (hb hby d11_7)
  have c2_E_ar := E_ar.wr W2
  have c2_F_ar_outOfOrder := F_ar_outOfOrder.other W2 (Or.inr (slot_ne (Or.inr (hw _ (List.mem_of_getElem? (i := 48) rfl))) (Or.inl (hw _ (List.mem_of_getElem? (i := 64) rfl))) (by decide) (t := (.object "java/util/Set")) (t' := .int) (by decide) (by decide)))
  have c2_F_ar_held := F_ar_held.other W2 (Or.inr (slot_ne (Or.inl (hw _ (List.mem_of_getElem? (i := 51) rfl))) (Or.inl (hw _ (List.mem_of_getElem? (i := 64) rfl))) (by decide) (t := (.array .int)) (t' := .int) (by decide) (by decide)))
  have c2_F_ar_levels := F_ar_levels.other W2 (Or.inr (slot_ne (Or.inl (hw _ (List.mem_of_getElem? (i := 55) rfl))) (Or.inl (hw _ (List.mem_of_getElem? (i := 64) rfl))) (by decide) (t := (.array (.object "com/example/kindgen/kindgen/core/document/RecordOrder$Level"))) (t' := .int) (by decide) (by decide)))
  have c2_F_ar_longBytes := F_ar_longBytes.other W2 (Or.inr (slot_ne (Or.inr (hw _ (List.mem_of_getElem? (i := 57) rfl))) (Or.inl (hw _ (List.mem_of_getElem? (i := 64) rfl))) (by decide) (t := .long) (t' := .int) (by decide) (by decide)))
  have c2_F_ar_depth := F_ar_depth.same W2
  have c2_F_ar_started := F_ar_started.other W2 (Or.inr (slot_ne (Or.inl (hw _ (List.mem_of_getElem? (i := 73) rfl))) (Or.inl (hw _ (List.mem_of_getElem? (i := 64) rfl))) (by decide) (t := .int) (t' := .int) (by decide) (by decide)))
  have c2_F_ar_heldCount := F_ar_heldCount.other W2 (Or.inr (slot_ne (Or.inl (hw _ (List.mem_of_getElem? (i := 165) rfl))) (Or.inl (hw _ (List.mem_of_getElem? (i := 64) rfl))) (by decide) (t := .int) (t' := .int) (by decide) (by decide)))
  have c2_F_aL_number := F_aL_number.other W2 (Or.inl (Ne.symm ne_ar_aL))
  have c2_F_aL_record := F_aL_record.other W2 (Or.inl (Ne.symm ne_ar_aL))
  have c2_F_aL_start := F_aL_start.other W2 (Or.inl (Ne.symm ne_ar_aL))
  have c2_F_aL_out := F_aL_out.other W2 (Or.inl (Ne.symm ne_ar_aL))
  have c2_E_aset := E_aset.wr W2
  have c2_F_aset_map := F_aset_map.other W2 (Or.inl (Ne.symm ne_ar_aset))
  have c2_E_amap := E_amap.wr W2
  have c2_F_amap_table := F_amap_table.other W2 (Or.inl (Ne.symm ne_ar_amap))
  have c2_F_amap_threshold := F_amap_threshold.other W2 (Or.inl (Ne.symm ne_ar_amap))
  have c2_F_amap_modCount := F_amap_modCount.other W2 (Or.inl (Ne.symm ne_ar_amap))
  have c2_F_amap_size := F_amap_size.other W2 (Or.inl (Ne.symm ne_ar_amap))
  have c2_F_amap_loadFactor := F_amap_loadFactor.other W2 (Or.inl (Ne.symm ne_ar_amap))
  have c2_E_and0 := E_and0.wr W2
  have c2_F_and0_hash := F_and0_hash.other W2 (Or.inl (Ne.symm ne_ar_and0))
  have c2_F_and0_key := F_and0_key.other W2 (Or.inl (Ne.symm ne_ar_and0))
  have c2_F_and0_value := F_and0_value.other W2 (Or.inl (Ne.symm ne_ar_and0))
  have c2_F_and0_next := F_and0_next.other W2 (Or.inl (Ne.symm ne_ar_and0))
  have c2_V_alv := V_alv.other W2 (Ne.symm ne_ar_alv)
  have c2_V_ahd := V_ahd.other W2 (Ne.symm ne_ar_ahd)
  have c2_V_atb := V_atb.other W2 (Ne.symm ne_ar_atb)
  have c2_S_java_util_HashSet_PRESENT := S_PRESENT.wr W2
  have N2 := Fr.snoc X2 N0 g_ar
  have Z2 : n0 ≤ h2.size := Nat.le_trans Z0 (Keep.of_wr W2).1
  have K2 : Keep h0 h2 [ar, ahd, and0] := K0.wr W2 (Or.inl (List.mem_of_getElem? (i := 0) rfl))
  obtain ⟨T3, X3, e3, st3⟩ := getF X2 hx hZ hown (host := "") (Or.inl (hw _ (List.mem_of_getElem? (i := 54) rfl))) Via.refl e2 c2_F_ar_levels (g := (mkF m 11 #[.val (.ref ar), .val (.long (0 : Int64)), .second, .unset] [(.ref ar)])) rfl rfl (hb hby d11_11)
  obtain ⟨T4, X4, e4, st4⟩ := getF X3 hx hZ hown (host := "") (Or.inl (hw _ (List.mem_of_getElem? (i := 63) rfl))) Via.refl e3 c2_F_ar_depth (g := (mkF m 15 #[.val (.ref ar), .val (.long (0 : Int64)), .second, .unset] [(.ref ar), (.ref alv)])) rfl rfl (hb hby d11_15)
  obtain ⟨cl_5, Ar_5, -, S_5, N_5, H_5, -⟩ := id c2_V_alv
  have hin_5 : ¬ ((0 : Int32) < 0 ∨ cl_5.slots.size ≤ ((0 : Int32)).toNatClampNeg) := inb_of S_5 ⟨by decide, by decide⟩
  have hat_5 : cl_5.slots[((0 : Int32)).toNatClampNeg]? = some (.ref aL) := Has.at H_5 hin_5 rfl
  obtain ⟨T6, X6, e6, st6⟩ := own_getFR X4 hx hZ hown (hw _ (List.mem_of_getElem? (i := 84) rfl)) e4 c2_F_aL_out (g := (mkF m 21 #[.val (.ref ar), .val (.long (0 : Int64)), .second, .val (.ref aL)] [(.ref aL)])) rfl rfl (hb hby d11_21)
  obtain ⟨T7, X7, e7, st7⟩ := getF X6 hx hZ hown (host := "") (Or.inl (hw _ (List.mem_of_getElem? (i := 47) rfl))) Via.refl e6 c2_F_ar_outOfOrder (g := (mkF m 28 #[.val (.ref ar), .val (.long (0 : Int64)), .second, .val (.ref aL)] [(.ref ar)])) rfl rfl (hb hby d11_28)
  obtain ⟨T8, X8, e8, st8⟩ := own_getFR X7 hx hZ hown (hw _ (List.mem_of_getElem? (i := 76) rfl)) e7 c2_F_aL_record (g := (mkF m 32 #[.val (.ref ar), .val (.long (0 : Int64)), .second, .val (.ref aL)] [(.ref aL), (.ref aset)])) rfl rfl (hb hby d11_32)
  obtain ⟨cq9, kq9, q9a, q9b, q9c⟩ := isOf hZ e8 c2_E_aset
  obtain ⟨_, _, ⟨T9, L9, k9, n9⟩, -, X9, ⟨Lc9, hQ9, l9, y9, z9⟩, st9⟩ := X8.interfaceBack hx (xi := (⟨"java/util/Set", "add", "(Ljava/lang/Object;)Z"⟩ : MethodName)) (y := (⟨"java/util/HashSet", "add", "(Ljava/lang/Object;)Z"⟩ : MethodName)) hown (mvT hZ (hw _ (List.mem_of_getElem? (i := 96) rfl))) (mvT hZ (hw _ (List.mem_of_getElem? (i := 97) rfl))) (mvT hZ (hw _ (List.mem_of_getElem? (i := 98) rfl))) (mvT hZ (hw _ (List.mem_of_getElem? (i := 99) rfl))) (mvT hZ (hw _ (List.mem_of_getElem? (i := 100) rfl))) (mvT hZ (hw _ (List.mem_of_getElem? (i := 101) rfl))) (mvT hZ (hw _ (List.mem_of_getElem? (i := 102) rfl))) (mvT hZ (hw _ (List.mem_of_getElem? (i := 103) rfl))) (by decide) (backOf (W := 0) (rm12b l Z a0 hw [] aset atb and0 kt amap apr h2 n0 Z2 c2_S_java_util_HashSet_PRESENT c2_E_aset c2_F_aset_map c2_E_amap c2_F_amap_table c2_F_amap_threshold c2_F_amap_modCount c2_F_amap_size c2_F_amap_loadFactor c2_E_and0 c2_F_and0_hash c2_F_and0_key c2_F_and0_value c2_F_and0_next c2_V_atb Ov_atb ne_aset_amap ne_aset_and0 ne_aset_atb ne_amap_and0 ne_amap_atb ne_and0_atb g_and0) hZ (hw _ (List.mem_of_getElem? (i := 104) rfl)) (hw _ (List.mem_of_getElem? (i := 11) rfl)) (by decide) (by decide)) q9a q9b q9c (g := (mkF m 35 #[.val (.ref ar), .val (.long (0 : Int64)), .second, .val (.ref aL)] [.null, (.ref aset)])) rfl (by rw [hml]; rfl) (Steps.refl _) (argsL := [.null]) (rest := []) (lenOf pd_4 rfl) rfl (by show 2 * 0 + _ ≤ _; exact Nat.le_of_eq rfl) (hb hby d11_35) (fun _ _ => ⟨rfl, e8, (by decide : 0 + 0 ≤ _), (by decide : 0 + 0 ≤ _)⟩)
  dsimp only [Pt.U, Pt.locs, Pt.cells, Pt.slots] at X9 l9 y9 z9 st9 hQ9
  subst l9 y9 z9
  obtain ⟨rfl, N9q, K9q, t9_0, t9_1, t9_2, t9_3, t9_4⟩ := hQ9
  have N9 := Fr.app N2 N9q
  have c9_E_ar := c2_E_ar.keep K9q
  have c9_F_ar_outOfOrder := c2_F_ar_outOfOrder.keep K9q (by simp only [List.mem_cons, List.not_mem_nil, or_false, not_or]; exact ne_ar_and0)
  have c9_F_ar_held := c2_F_ar_held.keep K9q (by simp only [List.mem_cons, List.not_mem_nil, or_false, not_or]; exact ne_ar_and0)
  have c9_F_ar_levels := c2_F_ar_levels.keep K9q (by simp only [List.mem_cons, List.not_mem_nil, or_false, not_or]; exact ne_ar_and0)
  have c9_F_ar_longBytes := c2_F_ar_longBytes.keep K9q (by simp only [List.mem_cons, List.not_mem_nil, or_false, not_or]; exact ne_ar_and0)
  have c9_F_ar_depth := c2_F_ar_depth.keep K9q (by simp only [List.mem_cons, List.not_mem_nil, or_false, not_or]; exact ne_ar_and0)
  have c9_F_ar_started := c2_F_ar_started.keep K9q (by simp only [List.mem_cons, List.not_mem_nil, or_false, not_or]; exact ne_ar_and0)
  have c9_F_ar_heldCount := c2_F_ar_heldCount.keep K9q (by simp only [List.mem_cons, List.not_mem_nil, or_false, not_or]; exact ne_ar_and0)
  have c9_F_aL_number := c2_F_aL_number.keep K9q (by simp only [List.mem_cons, List.not_mem_nil, or_false, not_or]; exact ne_aL_and0)
  have c9_F_aL_start := c2_F_aL_start.keep K9q (by simp only [List.mem_cons, List.not_mem_nil, or_false, not_or]; exact ne_aL_and0)
  have c9_F_aL_out := c2_F_aL_out.keep K9q (by simp only [List.mem_cons, List.not_mem_nil, or_false, not_or]; exact ne_aL_and0)
  have c9_V_ahd := c2_V_ahd.keep K9q (by simp only [List.mem_cons, List.not_mem_nil, or_false, not_or]; exact (Ne.symm ne_and0_ahd))
  have Z9 : n0 ≤ T9.heap.size := Nat.le_trans Z2 K9q.1
  have K9 : Keep h0 T9.heap [ar, ahd, and0] := K2.trans K9q (fun x hx => by simp only [List.mem_cons, List.not_mem_nil, or_false] at hx; rcases hx with rfl <;> first | exact (Or.inl (List.mem_of_getElem? (i := 2) rfl)))
  obtain ⟨T10, X10, e10, st10⟩ := own_getFR X9 hx hZ hown (hw _ (List.mem_of_getElem? (i := 84) rfl)) rfl c9_F_aL_out (g := (mkF m 42 #[.val (.ref ar), .val (.long (0 : Int64)), .second, .val (.ref aL)] [(.ref aL)])) rfl rfl (hb hby d11_42)
  obtain ⟨T11, X11, e11, st11⟩ := own_getFR X10 hx hZ hown (hw _ (List.mem_of_getElem? (i := 78) rfl)) e10 c9_F_aL_start (g := (mkF m 50 #[.val (.ref ar), .val (.long (0 : Int64)), .second, .val (.ref aL)] [(.ref aL), (.ref ar)])) rfl rfl (hb hby d11_50)
  obtain ⟨cq12, kq12, q12a, q12b, q12c⟩ := isOf hZ e11 c9_E_ar
  obtain ⟨_, _, ⟨T12, L12, k12, n12⟩, -, X12, ⟨Lc12, hQ12, l12, y12, z12⟩, st12⟩ := X11.virtualBack hx (y := (⟨"com/example/kindgen/kindgen/core/document/RecordOrder", "isLong", "(JJ)Z"⟩ : MethodName)) (z := (⟨"com/example/kindgen/kindgen/core/document/RecordOrder", "isLong", "(JJ)Z"⟩ : MethodName)) hown (mvT hZ (hw _ (List.mem_of_getElem? (i := 159) rfl))) (mvT hZ (hw _ (List.mem_of_getElem? (i := 160) rfl))) (notFace_of_selects (args := #[]) (mvT hZ (hw _ (List.mem_of_getElem? (i := 162) rfl)))) (mvT hZ (hw _ (List.mem_of_getElem? (i := 162) rfl))) (mvT hZ (hw _ (List.mem_of_getElem? (i := 161) rfl))) (by decide) (backOf (W := 0) (rm20 l Z a0 hw [] ar  T9.heap n0 Z9 c9_E_ar c9_F_ar_longBytes) hZ (hw _ (List.mem_of_getElem? (i := 163) rfl)) (hw _ (List.mem_of_getElem? (i := 2) rfl)) (by decide) (by decide)) q12a q12c (g := (mkF m 54 #[.val (.ref ar), .val (.long (0 : Int64)), .second, .val (.ref aL)] [(.long (0 : Int64)), (.long (0 : Int64)), (.ref ar)])) rfl (by rw [hml]; rfl) (Steps.refl _) (argsL := [(.long (0 : Int64)), (.long (0 : Int64))]) (rest := []) (lenOf pd_12 rfl) rfl (by show 2 * 0 + _ ≤ _; exact Nat.le_of_eq rfl) (hb hby d11_54) (fun _ _ => ⟨rfl, e11, (by decide : 0 + 0 ≤ _), (by decide : 0 + 0 ≤ _)⟩)
  dsimp only [Pt.U, Pt.locs, Pt.cells, Pt.slots] at X12 l12 y12 z12 st12 hQ12
  subst l12 y12 z12
  obtain ⟨rfl, N12q, K12q⟩ := hQ12
  have N12 := Fr.app N9 N12q
  have c12_E_ar := c9_E_ar.keep K12q
  have c12_F_ar_outOfOrder := c9_F_ar_outOfOrder.keep K12q (by simp)
  have c12_F_ar_held := c9_F_ar_held.keep K12q (by simp)
  have c12_F_ar_levels := c9_F_ar_levels.keep K12q (by simp)
  have c12_F_ar_longBytes := c9_F_ar_longBytes.keep K12q (by simp)
  have c12_F_ar_depth := c9_F_ar_depth.keep K12q (by simp)
  have c12_F_ar_started := c9_F_ar_started.keep K12q (by simp)
  have c12_F_ar_heldCount := c9_F_ar_heldCount.keep K12q (by simp)
  have c12_F_aL_number := c9_F_aL_number.keep K12q (by simp)
  have c12_E_and0 := t9_0.keep K12q
  have c12_V_ahd := c9_V_ahd.keep K12q (by simp)
  have c12_F_and0_hash := t9_1.keep K12q (by simp)
  have c12_F_and0_key := t9_2.keep K12q (by simp)
  have c12_F_and0_value := t9_3.keep K12q (by simp)
  have c12_F_and0_next := t9_4.keep K12q (by simp)
  have K12 : Keep h0 T12.heap [ar, ahd, and0] := K9.trans K12q (fun x hx => by cases hx)
  obtain ⟨T13, X13, e13, st13⟩ := getF X12 hx hZ hown (host := "") (Or.inl (hw _ (List.mem_of_getElem? (i := 164) rfl))) Via.refl rfl c12_F_ar_heldCount (g := (mkF m 61 #[.val (.ref ar), .val (.long (0 : Int64)), .second, .val (.ref aL)] [(.ref ar)])) rfl rfl (hb hby d11_61)
  obtain ⟨T14, X14, e14, st14⟩ := getF X13 hx hZ hown (host := "") (Or.inl (hw _ (List.mem_of_getElem? (i := 50) rfl))) Via.refl e13 c12_F_ar_held (g := (mkF m 68 #[.val (.ref ar), .val (.long (0 : Int64)), .second, .val (.ref aL)] [(.ref ar)])) rfl rfl (hb hby d11_68)
  obtain ⟨T15, X15, e15, st15⟩ := getF X14 hx hZ hown (host := "") (Or.inl (hw _ (List.mem_of_getElem? (i := 164) rfl))) Via.refl e14 c12_F_ar_heldCount (g := (mkF m 72 #[.val (.ref ar), .val (.long (0 : Int64)), .second, .val (.ref aL)] [(.ref ar), (.ref ahd)])) rfl rfl (hb hby d11_72)
  obtain ⟨cl_16, Ar_16, -, S_16, N_16, H_16, -⟩ := id c12_V_ahd
  have hin_16 : ¬ ((0 : Int32) < 0 ∨ cl_16.slots.size ≤ ((0 : Int32)).toNatClampNeg) := inb_of S_16 ⟨by decide, by decide⟩
  have hat_16 : cl_16.slots[((0 : Int32)).toNatClampNeg]? = some (.int (1 : Int32)) := Has.at H_16 hin_16 rfl
  obtain ⟨T17, X17, e17, st17⟩ := own_getFR X15 hx hZ hown (hw _ (List.mem_of_getElem? (i := 74) rfl)) e15 c12_F_aL_number (g := (mkF m 79 #[.val (.ref ar), .val (.long (0 : Int64)), .second, .val (.ref aL)] [(.ref aL), (.int (1 : Int32))])) rfl rfl (hb hby d11_79)
  obtain ⟨T18, X18, e18, st18⟩ := getF X17 hx hZ hown (host := "") (Or.inl (hw _ (List.mem_of_getElem? (i := 164) rfl))) Via.refl e17 c12_F_ar_heldCount (g := (mkF m 87 #[.val (.ref ar), .val (.long (0 : Int64)), .second, .val (.ref aL)] [(.ref ar), (.ref ar)])) rfl rfl (hb hby d11_87)
  obtain ⟨T19, h19, X19, e19, W19, st19⟩ := putF X18 hx hZ hown (host := "") (Or.inl (hw _ (List.mem_of_getElem? (i := 164) rfl))) Via.refl e18 c12_F_ar_heldCount c12_E_ar (Or.inl (hw _ (List.mem_of_getElem? (i := 165) rfl))) (hw _ (List.mem_of_getElem? (i := 1) rfl)) (ty := .int) (by decide) rfl rfl (g := (mkF m 92 #[.val (.ref ar), .val (.long (0 : Int64)), .second, .val (.ref aL)] [(.int (0 : Int32)), (.ref ar)])) rfl rfl (hb hby d11_92)
  have c19_E_ar := c12_E_ar.wr W19
  have c19_F_ar_outOfOrder := c12_F_ar_outOfOrder.other W19 (Or.inr (slot_ne (Or.inr (hw _ (List.mem_of_getElem? (i := 48) rfl))) (Or.inl (hw _ (List.mem_of_getElem? (i := 165) rfl))) (by decide) (t := (.object "java/util/Set")) (t' := .int) (by decide) (by decide)))
  have c19_F_ar_held := c12_F_ar_held.other W19 (Or.inr (slot_ne (Or.inl (hw _ (List.mem_of_getElem? (i := 51) rfl))) (Or.inl (hw _ (List.mem_of_getElem? (i := 165) rfl))) (by decide) (t := (.array .int)) (t' := .int) (by decide) (by decide)))
  have c19_F_ar_levels := c12_F_ar_levels.other W19 (Or.inr (slot_ne (Or.inl (hw _ (List.mem_of_getElem? (i := 55) rfl))) (Or.inl (hw _ (List.mem_of_getElem? (i := 165) rfl))) (by decide) (t := (.array (.object "com/example/kindgen/kindgen/core/document/RecordOrder$Level"))) (t' := .int) (by decide) (by decide)))
  have c19_F_ar_longBytes := c12_F_ar_longBytes.other W19 (Or.inr (slot_ne (Or.inr (hw _ (List.mem_of_getElem? (i := 57) rfl))) (Or.inl (hw _ (List.mem_of_getElem? (i := 165) rfl))) (by decide) (t := .long) (t' := .int) (by decide) (by decide)))
  have c19_F_ar_depth := c12_F_ar_depth.other W19 (Or.inr (slot_ne (Or.inl (hw _ (List.mem_of_getElem? (i := 64) rfl))) (Or.inl (hw _ (List.mem_of_getElem? (i := 165) rfl))) (by decide) (t := .int) (t' := .int) (by decide) (by decide)))
  have c19_F_ar_started := c12_F_ar_started.other W19 (Or.inr (slot_ne (Or.inl (hw _ (List.mem_of_getElem? (i := 73) rfl))) (Or.inl (hw _ (List.mem_of_getElem? (i := 165) rfl))) (by decide) (t := .int) (t' := .int) (by decide) (by decide)))
  have c19_F_ar_heldCount := c12_F_ar_heldCount.same W19
  have c19_F_aL_number := c12_F_aL_number.other W19 (Or.inl (Ne.symm ne_ar_aL))
  have c19_E_and0 := c12_E_and0.wr W19
  have c19_V_ahd := c12_V_ahd.other W19 (Ne.symm ne_ar_ahd)
  have c19_F_and0_hash := c12_F_and0_hash.other W19 (Or.inl (Ne.symm ne_ar_and0))
  have c19_F_and0_key := c12_F_and0_key.other W19 (Or.inl (Ne.symm ne_ar_and0))
  have c19_F_and0_value := c12_F_and0_value.other W19 (Or.inl (Ne.symm ne_ar_and0))
  have c19_F_and0_next := c12_F_and0_next.other W19 (Or.inl (Ne.symm ne_ar_and0))
  have N19 := Fr.snoc X19 N12 g_ar
  have K19 : Keep h0 h19 [ar, ahd, and0] := K12.wr W19 (Or.inl (List.mem_of_getElem? (i := 0) rfl))
  obtain ⟨T20, X20, e20, st20⟩ := getF X19 hx hZ hown (host := "") (Or.inl (hw _ (List.mem_of_getElem? (i := 164) rfl))) Via.refl e19 c19_F_ar_heldCount (g := (mkF m 61 #[.val (.ref ar), .val (.long (0 : Int64)), .second, .val (.ref aL)] [(.ref ar)])) rfl rfl (hb hby d11_61)
  obtain ⟨T21, X21, e21, st21⟩ := getF X20 hx hZ hown (host := "") (Or.inl (hw _ (List.mem_of_getElem? (i := 164) rfl))) Via.refl e20 c19_F_ar_heldCount (g := (mkF m 99 #[.val (.ref ar), .val (.long (0 : Int64)), .second, .val (.ref aL)] [(.ref ar)])) rfl rfl (hb hby d11_99)
  obtain ⟨T22, X22, e22, st22⟩ := getF X21 hx hZ hown (host := "") (Or.inl (hw _ (List.mem_of_getElem? (i := 50) rfl))) Via.refl e21 c19_F_ar_held (g := (mkF m 103 #[.val (.ref ar), .val (.long (0 : Int64)), .second, .val (.ref aL)] [(.ref ar), (.int (0 : Int32))])) rfl rfl (hb hby d11_103)
  obtain ⟨cl_23, Ar_23, -, S_23, N_23, -, -⟩ := id c19_V_ahd
  obtain ⟨T24, X24, e24, st24⟩ := getF X22 hx hZ hown (host := "") (Or.inl (hw _ (List.mem_of_getElem? (i := 50) rfl))) Via.refl e22 c19_F_ar_held (g := (mkF m 128 #[.val (.ref ar), .val (.long (0 : Int64)), .second, .val (.ref aL)] [(.ref ar)])) rfl rfl (hb hby d11_128)
  obtain ⟨T25, X25, e25, st25⟩ := getF X24 hx hZ hown (host := "") (Or.inl (hw _ (List.mem_of_getElem? (i := 164) rfl))) Via.refl e24 c19_F_ar_heldCount (g := (mkF m 132 #[.val (.ref ar), .val (.long (0 : Int64)), .second, .val (.ref aL)] [(.ref ar), (.ref ahd)])) rfl rfl (hb hby d11_132)
  obtain ⟨T26, X26, e26, st26⟩ := own_getFR X25 hx hZ hown (hw _ (List.mem_of_getElem? (i := 74) rfl)) e25 c19_F_aL_number (g := (mkF m 136 #[.val (.ref ar), .val (.long (0 : Int64)), .second, .val (.ref aL)] [(.ref aL), (.int (0 : Int32)), (.ref ahd)])) rfl rfl (hb hby d11_136)
  obtain ⟨cl_27, Ar_27, q_27, S_27, N_27, H_27, G_27⟩ := id c19_V_ahd
  have hin_27 : ¬ ((0 : Int32) < 0 ∨ cl_27.slots.size ≤ ((0 : Int32)).toNatClampNeg) := inb_of S_27 ⟨by decide, by decide⟩
  obtain ⟨T28, h28, X28, e28, W28, st28⟩ := stI X26 hx hZ e26 Ar_27 (j := (0 : Int32)) hin_27 (g := (mkF m 139 #[.val (.ref ar), .val (.long (0 : Int64)), .second, .val (.ref aL)] [(.int (0 : Int32)), (.int (0 : Int32)), (.ref ahd)])) rfl rfl (hb hby d11_139)
  have V28 : Arv Z h28 ahd kh .int (8 : Int32) [(.int (0 : Int32)), (.int (0 : Int32)), (.int (0 : Int32)), (.int (0 : Int32)), (.int (0 : Int32)), (.int (0 : Int32)), (.int (0 : Int32)), (.int (0 : Int32))] (.int (0 : Int32)) := Arv.set Ar_27 q_27 S_27 N_27 H_27 G_27 rfl W28 0 rfl (Nat.le_of_ble_eq_true rfl)
  have c28_E_ar := c19_E_ar.wr W28
  have c28_F_ar_outOfOrder := c19_F_ar_outOfOrder.other W28 (Or.inl ne_ar_ahd)
  have c28_F_ar_held := c19_F_ar_held.other W28 (Or.inl ne_ar_ahd)
  have c28_F_ar_levels := c19_F_ar_levels.other W28 (Or.inl ne_ar_ahd)
  have c28_F_ar_longBytes := c19_F_ar_longBytes.other W28 (Or.inl ne_ar_ahd)
  have c28_F_ar_depth := c19_F_ar_depth.other W28 (Or.inl ne_ar_ahd)
  have c28_F_ar_started := c19_F_ar_started.other W28 (Or.inl ne_ar_ahd)
  have c28_F_ar_heldCount := c19_F_ar_heldCount.other W28 (Or.inl ne_ar_ahd)
  have c28_E_and0 := c19_E_and0.wr W28
  have c28_F_and0_hash := c19_F_and0_hash.other W28 (Or.inl ne_and0_ahd)
  have c28_F_and0_key := c19_F_and0_key.other W28 (Or.inl ne_and0_ahd)
  have c28_F_and0_value := c19_F_and0_value.other W28 (Or.inl ne_and0_ahd)
  have c28_F_and0_next := c19_F_and0_next.other W28 (Or.inl ne_and0_ahd)
  have N28 := Fr.snoc X28 N19 g_ahd
  have K28 : Keep h0 h28 [ar, ahd, and0] := K19.wr W28 (Or.inl (List.mem_of_getElem? (i := 1) rfl))
  obtain ⟨T29, X29, e29, st29⟩ := getF X28 hx hZ hown (host := "") (Or.inl (hw _ (List.mem_of_getElem? (i := 164) rfl))) Via.refl e28 c28_F_ar_heldCount (g := (mkF m 142 #[.val (.ref ar), .val (.long (0 : Int64)), .second, .val (.ref aL)] [(.ref ar), (.ref ar)])) rfl rfl (hb hby d11_142)
  obtain ⟨T30, h30, X30, e30, W30, st30⟩ := putF X29 hx hZ hown (host := "") (Or.inl (hw _ (List.mem_of_getElem? (i := 164) rfl))) Via.refl e29 c28_F_ar_heldCount c28_E_ar (Or.inl (hw _ (List.mem_of_getElem? (i := 165) rfl))) (hw _ (List.mem_of_getElem? (i := 1) rfl)) (ty := .int) (by decide) rfl rfl (g := (mkF m 147 #[.val (.ref ar), .val (.long (0 : Int64)), .second, .val (.ref aL)] [(.int (1 : Int32)), (.ref ar)])) rfl rfl (hb hby d11_147)
  have c30_E_ar := c28_E_ar.wr W30
  have c30_F_ar_outOfOrder := c28_F_ar_outOfOrder.other W30 (Or.inr (slot_ne (Or.inr (hw _ (List.mem_of_getElem? (i := 48) rfl))) (Or.inl (hw _ (List.mem_of_getElem? (i := 165) rfl))) (by decide) (t := (.object "java/util/Set")) (t' := .int) (by decide) (by decide)))
  have c30_F_ar_held := c28_F_ar_held.other W30 (Or.inr (slot_ne (Or.inl (hw _ (List.mem_of_getElem? (i := 51) rfl))) (Or.inl (hw _ (List.mem_of_getElem? (i := 165) rfl))) (by decide) (t := (.array .int)) (t' := .int) (by decide) (by decide)))
  have c30_F_ar_levels := c28_F_ar_levels.other W30 (Or.inr (slot_ne (Or.inl (hw _ (List.mem_of_getElem? (i := 55) rfl))) (Or.inl (hw _ (List.mem_of_getElem? (i := 165) rfl))) (by decide) (t := (.array (.object "com/example/kindgen/kindgen/core/document/RecordOrder$Level"))) (t' := .int) (by decide) (by decide)))
  have c30_F_ar_longBytes := c28_F_ar_longBytes.other W30 (Or.inr (slot_ne (Or.inr (hw _ (List.mem_of_getElem? (i := 57) rfl))) (Or.inl (hw _ (List.mem_of_getElem? (i := 165) rfl))) (by decide) (t := .long) (t' := .int) (by decide) (by decide)))
  have c30_F_ar_depth := c28_F_ar_depth.other W30 (Or.inr (slot_ne (Or.inl (hw _ (List.mem_of_getElem? (i := 64) rfl))) (Or.inl (hw _ (List.mem_of_getElem? (i := 165) rfl))) (by decide) (t := .int) (t' := .int) (by decide) (by decide)))
  have c30_F_ar_started := c28_F_ar_started.other W30 (Or.inr (slot_ne (Or.inl (hw _ (List.mem_of_getElem? (i := 73) rfl))) (Or.inl (hw _ (List.mem_of_getElem? (i := 165) rfl))) (by decide) (t := .int) (t' := .int) (by decide) (by decide)))
  have c30_F_ar_heldCount := c28_F_ar_heldCount.same W30
  have c30_E_and0 := c28_E_and0.wr W30
  have c30_V_ahd := V28.other W30 (Ne.symm ne_ar_ahd)
  have c30_F_and0_hash := c28_F_and0_hash.other W30 (Or.inl (Ne.symm ne_ar_and0))
  have c30_F_and0_key := c28_F_and0_key.other W30 (Or.inl (Ne.symm ne_ar_and0))
  have c30_F_and0_value := c28_F_and0_value.other W30 (Or.inl (Ne.symm ne_ar_and0))
  have c30_F_and0_next := c28_F_and0_next.other W30 (Or.inl (Ne.symm ne_ar_and0))
  have N30 := Fr.snoc X30 N28 g_ar
  have K30 : Keep h0 h30 [ar, ahd, and0] := K28.wr W30 (Or.inl (List.mem_of_getElem? (i := 0) rfl))
  obtain ⟨fs, hr, hrun, hended, hW, hsame⟩ := X30.leave (v := none) (fun _ => rfl)
  refine ⟨_, _, pre0 _ ?_, hrun, hended, _, _, rfl, ?_, ⟨_, rfl⟩, hW, hsame.mono (by decide) (by decide)⟩
  · show Steps p.tables e below (s₁.setTop (mkF m 0 #[.val (.ref ar), .val (.long (0 : Int64)), .second, .unset] [])) _
    refine XS.aloadN X0.here hx rfl (hb hby d11_0) rfl rfl ?_
    show Steps p.tables e below (s₁.setTop (mkF m 1 #[.val (.ref ar), .val (.long (0 : Int64)), .second, .unset] [(.ref ar)])) _
    refine XS.dup X0.here hx rfl (hb hby d11_1) rfl rfl ?_
    show Steps p.tables e below (s₁.setTop (mkF m 2 #[.val (.ref ar), .val (.long (0 : Int64)), .second, .unset] [(.ref ar), (.ref ar)])) _
    refine st1 _ ?_
    refine XS.iconst X1.here hx rfl (hb hby d11_5) ?_
    show Steps p.tables e below (T1.setTop (mkF m 6 #[.val (.ref ar), .val (.long (0 : Int64)), .second, .unset] [(.int (1 : Int32)), (.int (1 : Int32)), (.ref ar)])) _
    refine XS.isub X1.here hx rfl (hb hby d11_6) rfl ?_
    show Steps p.tables e below (T1.setTop (mkF m 7 #[.val (.ref ar), .val (.long (0 : Int64)), .second, .unset] [(.int (0 : Int32)), (.ref ar)])) _
    refine st2 _ ?_
    refine XS.aloadN X2.here hx rfl (hb hby d11_10) rfl rfl ?_
    show Steps p.tables e below (T2.setTop (mkF m 11 #[.val (.ref ar), .val (.long (0 : Int64)), .second, .unset] [(.ref ar)])) _
    refine st3 _ ?_
    refine XS.aloadN X3.here hx rfl (hb hby d11_14) rfl rfl ?_
    show Steps p.tables e below (T3.setTop (mkF m 15 #[.val (.ref ar), .val (.long (0 : Int64)), .second, .unset] [(.ref ar), (.ref alv)])) _
    refine st4 _ ?_
    show Steps p.tables e below (T4.setTop (mkF m 18 #[.val (.ref ar), .val (.long (0 : Int64)), .second, .unset] [(.int (0 : Int32)), (.ref alv)])) _
    refine X4.aaload hx (j := (0 : Int32)) (v := (.ref aL)) (by rw [e4]; exact Ar_5.1) (State.isArrayOf_alike hZ.alike Ar_5.2.1) rfl Ar_5.2.2 hin_5 hat_5 (g := (mkF m 18 #[.val (.ref ar), .val (.long (0 : Int64)), .second, .unset] [(.int (0 : Int32)), (.ref alv)])) rfl rfl (hb hby d11_18) _ ?_
    show Steps p.tables e below (T4.setTop (mkF m 19 #[.val (.ref ar), .val (.long (0 : Int64)), .second, .unset] [(.ref aL)])) _
    refine XS.astoreN X4.here hx rfl (hb hby d11_19) rfl rfl (l' := #[.val (.ref ar), .val (.long (0 : Int64)), .second, .val (.ref aL)]) rfl ?_
    refine XS.aloadN X4.here hx rfl (hb hby d11_20) rfl rfl ?_
    show Steps p.tables e below (T4.setTop (mkF m 21 #[.val (.ref ar), .val (.long (0 : Int64)), .second, .val (.ref aL)] [(.ref aL)])) _
    refine st6 _ ?_
    show Steps p.tables e below (T6.setTop (mkF m 24 #[.val (.ref ar), .val (.long (0 : Int64)), .second, .val (.ref aL)] [(.int ou)])) _
    refine XS.ifNo X6.here hx rfl (hb hby d11_24) rfl ((if0 _ _).trans (feq ho).1) ?_
    refine XS.aloadN X6.here hx rfl (hb hby d11_27) rfl rfl ?_
    show Steps p.tables e below (T6.setTop (mkF m 28 #[.val (.ref ar), .val (.long (0 : Int64)), .second, .val (.ref aL)] [(.ref ar)])) _
    refine st7 _ ?_
    refine XS.aloadN X7.here hx rfl (hb hby d11_31) rfl rfl ?_
    show Steps p.tables e below (T7.setTop (mkF m 32 #[.val (.ref ar), .val (.long (0 : Int64)), .second, .val (.ref aL)] [(.ref aL), (.ref aset)])) _
    refine st8 _ ?_
    show Steps p.tables e below (T8.setTop (mkF m 35 #[.val (.ref ar), .val (.long (0 : Int64)), .second, .val (.ref aL)] [.null, (.ref aset)])) _
    refine st9.trans ?_
    show Steps p.tables e below (T9.setTop (mkF m 40 #[.val (.ref ar), .val (.long (0 : Int64)), .second, .val (.ref aL)] [(.int (0 : Int32))])) _
    refine XS.pop X9.here hx rfl (hb hby d11_40) rfl rfl ?_
    refine XS.aloadN X9.here hx rfl (hb hby d11_41) rfl rfl ?_
    show Steps p.tables e below (T9.setTop (mkF m 42 #[.val (.ref ar), .val (.long (0 : Int64)), .second, .val (.ref aL)] [(.ref aL)])) _
    refine st10 _ ?_
    show Steps p.tables e below (T10.setTop (mkF m 45 #[.val (.ref ar), .val (.long (0 : Int64)), .second, .val (.ref aL)] [(.int ou)])) _
    refine XS.ifNo X10.here hx rfl (hb hby d11_45) rfl ((if0 _ _).trans (feq ho).1) ?_
    refine XS.aloadN X10.here hx rfl (hb hby d11_48) rfl rfl ?_
    refine XS.aloadN X10.here hx rfl (hb hby d11_49) rfl rfl ?_
    show Steps p.tables e below (T10.setTop (mkF m 50 #[.val (.ref ar), .val (.long (0 : Int64)), .second, .val (.ref aL)] [(.ref aL), (.ref ar)])) _
    refine st11 _ ?_
    refine XS.lloadN X11.here hx rfl (hb hby d11_53) rfl ?_
    show Steps p.tables e below (T11.setTop (mkF m 54 #[.val (.ref ar), .val (.long (0 : Int64)), .second, .val (.ref aL)] [(.long (0 : Int64)), (.long (0 : Int64)), (.ref ar)])) _
    refine st12.trans ?_
    show Steps p.tables e below (T12.setTop (mkF m 57 #[.val (.ref ar), .val (.long (0 : Int64)), .second, .val (.ref aL)] [(.int (1 : Int32))])) _
    refine XS.ifNo X12.here hx rfl (hb hby d11_57) rfl ((if0 _ _).trans (feq (by decide : ¬ ((1 : Int32) = (0 : Int32)))).1) ?_
    refine XS.aloadN X12.here hx rfl (hb hby d11_60) rfl rfl ?_
    show Steps p.tables e below (T12.setTop (mkF m 61 #[.val (.ref ar), .val (.long (0 : Int64)), .second, .val (.ref aL)] [(.ref ar)])) _
    refine st13 _ ?_
    show Steps p.tables e below (T13.setTop (mkF m 64 #[.val (.ref ar), .val (.long (0 : Int64)), .second, .val (.ref aL)] [(.int (1 : Int32))])) _
    refine XS.ifNo X13.here hx rfl (hb hby d11_64) rfl ((if0 _ _).trans (tlt (by decide : (0 : Int32) < (1 : Int32))).2.2.2) ?_
    refine XS.aloadN X13.here hx rfl (hb hby d11_67) rfl rfl ?_
    show Steps p.tables e below (T13.setTop (mkF m 68 #[.val (.ref ar), .val (.long (0 : Int64)), .second, .val (.ref aL)] [(.ref ar)])) _
    refine st14 _ ?_
    refine XS.aloadN X14.here hx rfl (hb hby d11_71) rfl rfl ?_
    show Steps p.tables e below (T14.setTop (mkF m 72 #[.val (.ref ar), .val (.long (0 : Int64)), .second, .val (.ref aL)] [(.ref ar), (.ref ahd)])) _
    refine st15 _ ?_
    refine XS.iconst X15.here hx rfl (hb hby d11_75) ?_
    show Steps p.tables e below (T15.setTop (mkF m 76 #[.val (.ref ar), .val (.long (0 : Int64)), .second, .val (.ref aL)] [(.int (1 : Int32)), (.int (1 : Int32)), (.ref ahd)])) _
    refine XS.isub X15.here hx rfl (hb hby d11_76) rfl ?_
    show Steps p.tables e below (T15.setTop (mkF m 77 #[.val (.ref ar), .val (.long (0 : Int64)), .second, .val (.ref aL)] [(.int (0 : Int32)), (.ref ahd)])) _
    refine X15.iaload hx (j := (0 : Int32)) (v := (.int (1 : Int32))) (by rw [e15]; exact Ar_16.1) (State.isArrayOf_alike hZ.alike Ar_16.2.1) Ar_16.2.2 hin_16 hat_16 (g := (mkF m 77 #[.val (.ref ar), .val (.long (0 : Int64)), .second, .val (.ref aL)] [(.int (0 : Int32)), (.ref ahd)])) rfl rfl (hb hby d11_77) _ ?_
    refine XS.aloadN X15.here hx rfl (hb hby d11_78) rfl rfl ?_
    show Steps p.tables e below (T15.setTop (mkF m 79 #[.val (.ref ar), .val (.long (0 : Int64)), .second, .val (.ref aL)] [(.ref aL), (.int (1 : Int32))])) _
    refine st17 _ ?_
    show Steps p.tables e below (T17.setTop (mkF m 82 #[.val (.ref ar), .val (.long (0 : Int64)), .second, .val (.ref aL)] [(.int (0 : Int32)), (.int (1 : Int32))])) _
    refine XS.icmpNo X17.here hx rfl (hb hby d11_82) rfl (tlt (by decide : (0 : Int32) < (1 : Int32))).2.2.2 ?_
    refine XS.aloadN X17.here hx rfl (hb hby d11_85) rfl rfl ?_
    show Steps p.tables e below (T17.setTop (mkF m 86 #[.val (.ref ar), .val (.long (0 : Int64)), .second, .val (.ref aL)] [(.ref ar)])) _
    refine XS.dup X17.here hx rfl (hb hby d11_86) rfl rfl ?_
    show Steps p.tables e below (T17.setTop (mkF m 87 #[.val (.ref ar), .val (.long (0 : Int64)), .second, .val (.ref aL)] [(.ref ar), (.ref ar)])) _
    refine st18 _ ?_
    refine XS.iconst X18.here hx rfl (hb hby d11_90) ?_
    show Steps p.tables e below (T18.setTop (mkF m 91 #[.val (.ref ar), .val (.long (0 : Int64)), .second, .val (.ref aL)] [(.int (1 : Int32)), (.int (1 : Int32)), (.ref ar)])) _
    refine XS.isub X18.here hx rfl (hb hby d11_91) rfl ?_
    show Steps p.tables e below (T18.setTop (mkF m 92 #[.val (.ref ar), .val (.long (0 : Int64)), .second, .val (.ref aL)] [(.int (0 : Int32)), (.ref ar)])) _
    refine st19 _ ?_
    refine XS.goto X19.here hx rfl (pc0 := 95) (pc' := 60) rfl (hb hby d11_95) (by decide) (by decide) ?_
    refine XS.aloadN X19.here hx rfl (hb hby d11_60) rfl rfl ?_
    show Steps p.tables e below (T19.setTop (mkF m 61 #[.val (.ref ar), .val (.long (0 : Int64)), .second, .val (.ref aL)] [(.ref ar)])) _
    refine st20 _ ?_
    show Steps p.tables e below (T20.setTop (mkF m 64 #[.val (.ref ar), .val (.long (0 : Int64)), .second, .val (.ref aL)] [(.int (0 : Int32))])) _
    refine XS.ifYes X20.here hx rfl (pc0 := 64) (pc' := 98) rfl (hb hby d11_64) rfl ((if0 _ _).trans (flt (by decide : ¬ ((0 : Int32) < (0 : Int32)))).2.2.2) (by decide) (by decide) ?_
    refine XS.aloadN X20.here hx rfl (hb hby d11_98) rfl rfl ?_
    show Steps p.tables e below (T20.setTop (mkF m 99 #[.val (.ref ar), .val (.long (0 : Int64)), .second, .val (.ref aL)] [(.ref ar)])) _
    refine st21 _ ?_
    refine XS.aloadN X21.here hx rfl (hb hby d11_102) rfl rfl ?_
    show Steps p.tables e below (T21.setTop (mkF m 103 #[.val (.ref ar), .val (.long (0 : Int64)), .second, .val (.ref aL)] [(.ref ar), (.int (0 : Int32))])) _
    refine st22 _ ?_
    show Steps p.tables e below (T22.setTop (mkF m 106 #[.val (.ref ar), .val (.long (0 : Int64)), .second, .val (.ref aL)] [(.ref ahd), (.int (0 : Int32))])) _
    refine X22.arraylength hx (by rw [e22]; exact Ar_23.1) (State.isArrayOf_alike hZ.alike Ar_23.2.1) (g := (mkF m 106 #[.val (.ref ar), .val (.long (0 : Int64)), .second, .val (.ref aL)] [(.ref ahd), (.int (0 : Int32))])) rfl rfl (hb hby d11_106) _ ?_
    rw [len_of S_23 N_23]
    show Steps p.tables e below (T22.setTop (mkF m 107 #[.val (.ref ar), .val (.long (0 : Int64)), .second, .val (.ref aL)] [(.int (8 : Int32)), (.int (0 : Int32))])) _
    refine XS.icmpYes X22.here hx rfl (pc0 := 107) (pc' := 127) rfl (hb hby d11_107) rfl (feq (by decide : ¬ ((0 : Int32) = (8 : Int32)))).2 (by decide) (by decide) ?_
    refine XS.aloadN X22.here hx rfl (hb hby d11_127) rfl rfl ?_
    show Steps p.tables e below (T22.setTop (mkF m 128 #[.val (.ref ar), .val (.long (0 : Int64)), .second, .val (.ref aL)] [(.ref ar)])) _
    refine st24 _ ?_
    refine XS.aloadN X24.here hx rfl (hb hby d11_131) rfl rfl ?_
    show Steps p.tables e below (T24.setTop (mkF m 132 #[.val (.ref ar), .val (.long (0 : Int64)), .second, .val (.ref aL)] [(.ref ar), (.ref ahd)])) _
    refine st25 _ ?_
    refine XS.aloadN X25.here hx rfl (hb hby d11_135) rfl rfl ?_
    show Steps p.tables e below (T25.setTop (mkF m 136 #[.val (.ref ar), .val (.long (0 : Int64)), .second, .val (.ref aL)] [(.ref aL), (.int (0 : Int32)), (.ref ahd)])) _
    refine st26 _ ?_
    show Steps p.tables e below (T26.setTop (mkF m 139 #[.val (.ref ar), .val (.long (0 : Int64)), .second, .val (.ref aL)] [(.int (0 : Int32)), (.int (0 : Int32)), (.ref ahd)])) _
    refine st28 _ ?_
    refine XS.aloadN X28.here hx rfl (hb hby d11_140) rfl rfl ?_
    show Steps p.tables e below (T28.setTop (mkF m 141 #[.val (.ref ar), .val (.long (0 : Int64)), .second, .val (.ref aL)] [(.ref ar)])) _
    refine XS.dup X28.here hx rfl (hb hby d11_141) rfl rfl ?_
    show Steps p.tables e below (T28.setTop (mkF m 142 #[.val (.ref ar), .val (.long (0 : Int64)), .second, .val (.ref aL)] [(.ref ar), (.ref ar)])) _
    refine st29 _ ?_
    refine XS.iconst X29.here hx rfl (hb hby d11_145) ?_
    refine XS.iadd X29.here hx rfl (hb hby d11_146) rfl ?_
    show Steps p.tables e below (T29.setTop (mkF m 147 #[.val (.ref ar), .val (.long (0 : Int64)), .second, .val (.ref aL)] [(.int (1 : Int32)), (.ref ar)])) _
    refine st30 _ ?_
    show Steps p.tables e below (T30.setTop (mkF m 150 #[.val (.ref ar), .val (.long (0 : Int64)), .second, .val (.ref aL)] [])) _
    exact X30.returnOut hx Bd.returns (hb hby d11_150) hr
  · show Q11c0 Z ar aset ahd alv kl aL ls kp ou kh sd u1 amap apr atb and0 kt h0 n0 _ T30.heap _
    rw [e30]
    exact ⟨rfl, N30, K30, c30_E_ar, c30_F_ar_outOfOrder, c30_F_ar_held, c30_F_ar_levels, c30_F_ar_longBytes, c30_F_ar_depth, c30_F_ar_started, c30_F_ar_heldCount, c30_V_ahd, c30_E_and0, c30_F_and0_hash, c30_F_and0_key, c30_F_and0_value, c30_F_and0_next⟩
theorem ef_23 (m : MethodId) (x0 : Int32) (x1 : Int32) : entryFrame m #[(.int x0), (.int x1)] 2 = mkF m 0 #[.val (.int x0), .val (.int x1)] [] := by first | (simp [entryFrame, mkF, argsToLocals, Value.category]; done) | rfl
def sp23 (p1 : Int32) (p2 : Int32) : Int32 := (if p2 < p1 then p2 else p1)
def Q23 (Z : State) (p1 : Int32) (p2 : Int32) (h0 : Heap) (n0 : Nat) (v : Option Value) (h : Heap) (L : List Loc) : Prop := v = some (.int (sp23 p1 p2)) ∧ Fr n0 L ∧ h = h0
set_option maxRecDepth 65536 in
set_option maxHeartbeats 40000000 in
theorem rm23 (l : Launch) (Z : State) (a0 : Array Value) (hw : ∀ d ∈ tables_1, d.before a0 Z = true) (ws : List Jvm.Cond) (p1 : Int32) (p2 : Int32)  (h0 : Heap) (n0 : Nat) (Z0 : n0 ≤ h0.size)  :
    MetFree l (⟨"java/lang/Math", "min", "(II)I"⟩ : MethodName) (head1 (Jvm.Cond.code (⟨"java/lang/Math", "min", "(II)I"⟩ : MethodName) jdk_29_method_69_code 2 (some .int) :: ws) ({ frames := 0, cells := 0, slots := 0, locals := 0 } : Room)) (fun a U => a = #[(.int p1), (.int p2)] ∧ Z.Warmed39 U.vm ∧ U.heap = h0) (fun _ _ _ _ _ => True) (fun _ U o U' => ∃ v L, o = .returned v ∧ Q23 Z p1 p2 h0 n0 v U'.heap L ∧ FrameEnd U o U' L ({ frames := 0, cells := 0, slots := 0, locals := 0 } : Room).cells ({ frames := 0, cells := 0, slots := 0, locals := 0 } : Room).slots) := by
  refine MetFree.of_bodySF (Jvm.Free.JP.mathPlain rfl (by decide +kernel)) hisR ?_
  intro p e s m args below meth c s₁ Bd hml0 hP hK
  obtain ⟨rfl, hZ, hh⟩ := hP
  have hx := Bd.exec
  have hby := Bd.bytes
  have X0 : Stand p l e ({ frames := 0, cells := 0, slots := 0, locals := 0 } : Room) s m #[(.int p1), (.int p2)] below meth c s₁ [] 0 0 := Stand.of_body Bd
  have e0 : s₁.heap = h0 := by rw [← hh, Bd.state]; rfl
  have N0 := Fr.nil n0
  have pre0 : ∀ t, Steps p.tables e below (s₁.setTop (mkF m 0 #[.val (.int p1), .val (.int p2)] [])) t → Steps p.tables e below (s₁.setTop (entryFrame m #[(.int p1), (.int p2)] 2)) t := fun t k => castTop (ef_23 m p1 p2) k
  have pre1 : ∀ t, Steps p.tables e below (s₁.setTop (mkF m 2 #[.val (.int p1), .val (.int p2)] [(.int p2), (.int p1)])) t → Steps p.tables e below (s₁.setTop (entryFrame m #[(.int p1), (.int p2)] 2)) t := by
    intro t k
    refine pre0 t ?_
    show Steps p.tables e below (s₁.setTop (mkF m 0 #[.val (.int p1), .val (.int p2)] [])) _
    refine XS.iloadN X0.here hx rfl (hb hby d23_0) rfl ?_
    refine XS.iloadN X0.here hx rfl (hb hby d23_1) rfl ?_
    exact k
  by_cases hc2_2 : p2 < p1
  · obtain ⟨fs, hr, hrun, hended, hW, hsame⟩ := X0.leave (v := some (.int p2)) (fun h => by rw [Bd.returns] at h; cases h)
    refine ⟨_, _, pre1 _ ?_, hrun, hended, _, _, rfl, ?_, ⟨_, rfl⟩, hW, hsame.mono (by decide) (by decide)⟩
    · show Steps p.tables e below (s₁.setTop (mkF m 2 #[.val (.int p1), .val (.int p2)] [(.int p2), (.int p1)])) _
      refine XS.icmpYes X0.here hx rfl (pc0 := 2) (pc' := 9) rfl (hb hby d23_2) rfl (tlt hc2_2).2.2.1 (by decide) (by decide) ?_
      refine XS.iloadN X0.here hx rfl (hb hby d23_9) rfl ?_
      show Steps p.tables e below (s₁.setTop (mkF m 10 #[.val (.int p1), .val (.int p2)] [(.int p2)])) _
      exact retI X0 hx Bd.returns (hb hby d23_10) hr
    · show Q23 Z p1 p2 h0 n0 _ s₁.heap _
      rw [e0]
      exact ⟨by rw [sp23, if_pos hc2_2], N0, rfl⟩
  · obtain ⟨fs, hr, hrun, hended, hW, hsame⟩ := X0.leave (v := some (.int p1)) (fun h => by rw [Bd.returns] at h; cases h)
    refine ⟨_, _, pre1 _ ?_, hrun, hended, _, _, rfl, ?_, ⟨_, rfl⟩, hW, hsame.mono (by decide) (by decide)⟩
    · show Steps p.tables e below (s₁.setTop (mkF m 2 #[.val (.int p1), .val (.int p2)] [(.int p2), (.int p1)])) _
      refine XS.icmpNo X0.here hx rfl (hb hby d23_2) rfl (flt hc2_2).2.2.1 ?_
      refine XS.iloadN X0.here hx rfl (hb hby d23_5) rfl ?_
      refine XS.goto X0.here hx rfl (pc0 := 6) (pc' := 10) rfl (hb hby d23_6) (by decide) (by decide) ?_
      show Steps p.tables e below (s₁.setTop (mkF m 10 #[.val (.int p1), .val (.int p2)] [(.int p1)])) _
      exact retI X0 hx Bd.returns (hb hby d23_10) hr
    · show Q23 Z p1 p2 h0 n0 _ s₁.heap _
      rw [e0]
      exact ⟨by rw [sp23, if_neg hc2_2], N0, rfl⟩
theorem ef_22 (m : MethodId) (x0 : Addr) (x1 : Int32) : entryFrame m #[(.ref x0), (.int x1)] 3 = mkF m 0 #[.val (.ref x0), .val (.int x1), .unset] [] := by first | (simp [entryFrame, mkF, argsToLocals, Value.category]; done) | rfl
def Q22k0 (Z : State) (ahd : Addr) (kh : ClassId) (v0 : Int32) (h0 : Heap) (n0 : Nat) (v : Option Value) (h : Heap) (L : List Loc) : Prop := ∃ (b2 : Addr), ∃ (k2 : ClassId), v = some (.ref b2) ∧ Fr n0 L ∧ Keep h0 h [] ∧ Arv Z h b2 k2 .int (0 : Int32) [] (.int (0 : Int32)) ∧ n0 ≤ b2 ∧ h0.size ≤ b2
set_option maxRecDepth 65536 in
set_option maxHeartbeats 40000000 in
theorem rm22k0 (l : Launch) (Z : State) (a0 : Array Value) (hw : ∀ d ∈ tables_1, d.before a0 Z = true) (ws : List Jvm.Cond) (ahd : Addr) (kh : ClassId) (v0 : Int32) (h0 : Heap) (n0 : Nat) (Z0 : n0 ≤ h0.size) (V_ahd : Arv Z h0 ahd kh .int (8 : Int32) [(.int v0), (.int (0 : Int32)), (.int (0 : Int32)), (.int (0 : Int32)), (.int (0 : Int32)), (.int (0 : Int32)), (.int (0 : Int32)), (.int (0 : Int32))] (.int (0 : Int32))) :
    MetFree l (⟨"java/util/Arrays", "copyOf", "([II)[I"⟩ : MethodName) (head1 (Jvm.Cond.code (⟨"java/util/Arrays", "copyOf", "([II)[I"⟩ : MethodName) jdk_65_method_123_code 3 (some (.array .int)) :: ws) ({ frames := 1, cells := 1, slots := 0, locals := 40 } : Room)) (fun a U => a = #[(.ref ahd), (.int (0 : Int32))] ∧ Z.Warmed39 U.vm ∧ U.heap = h0) (fun _ _ _ _ _ => True) (fun _ U o U' => ∃ v L, o = .returned v ∧ Q22k0 Z ahd kh v0 h0 n0 v U'.heap L ∧ FrameEnd U o U' L ({ frames := 1, cells := 1, slots := 0, locals := 40 } : Room).cells ({ frames := 1, cells := 1, slots := 0, locals := 40 } : Room).slots) := by
  refine MetFree.of_bodySF (plainFor_of_name pn_22) hisR ?_
  intro p e s m args below meth c s₁ Bd hml0 hP hK
  obtain ⟨rfl, hZ, hh⟩ := hP
  have hx := Bd.exec
  have hby := Bd.bytes
  have hml : c.maxLocals = 3 := hml0
  have hown : s.vm.findClass "java/util/Arrays" = some m.cls := findClass_of_methodNamed Bd.named
  have X0 : Stand p l e ({ frames := 1, cells := 1, slots := 0, locals := 40 } : Room) s m #[(.ref ahd), (.int (0 : Int32))] below meth c s₁ [] 0 0 := Stand.of_body Bd
  have e0 : s₁.heap = h0 := by rw [← hh, Bd.state]; rfl
  have N0 := Fr.nil n0
  have pre0 : ∀ t, Steps p.tables e below (s₁.setTop (mkF m 0 #[.val (.ref ahd), .val (.int (0 : Int32)), .unset] [])) t → Steps p.tables e below (s₁.setTop (entryFrame m #[(.ref ahd), (.int (0 : Int32))] 3)) t := fun t k => castTop (ef_22 m ahd (0 : Int32)) k
  have K0 : Keep h0 h0 [] := Keep.refl h0 _
  obtain ⟨cl_1, Ar_1, -, S_1, N_1, -, -⟩ := id V_ahd
  obtain ⟨T2, h2, k2, X2, e2, E2, A2, st2⟩ := newP X0 hx hZ (hw _ (List.mem_of_getElem? (i := 49) rfl)) e0 (g := (mkF m 15 #[.val (.ref ahd), .val (.int (0 : Int32)), .unset] [(.int (0 : Int32))])) rfl (hb hby d22_15) rfl (by decide) (cap := 0) (by decide) (by decide) (by decide) (by decide)
  obtain ⟨b2, g2⟩ : ∃ z, z = h0.size := ⟨_, rfl⟩
  rw [← g2] at A2 st2
  have g_b2 : n0 ≤ b2 := Nat.le_trans Z0 (Nat.le_of_eq g2.symm)
  have Z2 : n0 ≤ h2.size := Nat.le_trans Z0 E2.1
  have sz_b2 : h0.size ≤ b2 := Nat.le_trans K0.1 (Nat.le_of_eq g2.symm)
  have K2 : Keep h0 h2 [] := K0.ext E2
  have c2_V_ahd := V_ahd.ext E2
  have V2 : Arv Z h2 b2 k2 .int (0 : Int32) [] (.int (0 : Int32)) := (Arv.new A2 (by decide)).pad (pad_rep [] (.int (0 : Int32)) 0)
  obtain ⟨cl_3, Ar_3, -, S_3, N_3, -, -⟩ := id c2_V_ahd
  obtain ⟨_, _, ⟨T4, L4, k4, n4⟩, -, X4, ⟨Lc4, hQ4, l4, y4, z4⟩, st4⟩ := Jvm.LawKit.callS X2 hx (y := (⟨"java/lang/Math", "min", "(II)I"⟩ : MethodName)) hown (mvT hZ (hw _ (List.mem_of_getElem? (i := 175) rfl))) (mvT hZ (hw _ (List.mem_of_getElem? (i := 176) rfl))) (mvT hZ (hw _ (List.mem_of_getElem? (i := 177) rfl))) (mvT hZ (hw _ (List.mem_of_getElem? (i := 178) rfl))) (by decide) (backOf (W := 4) (rm23 l Z a0 hw [] (8 : Int32) (0 : Int32) h2 n0 Z2) hZ (hw _ (List.mem_of_getElem? (i := 178) rfl)) (hw _ (List.mem_of_getElem? (i := 177) rfl)) (by decide) (by decide)) (g := (mkF m 25 #[.val (.ref ahd), .val (.int (0 : Int32)), .val (.ref b2)] [(.int (0 : Int32)), (.int (8 : Int32)), (.int (0 : Int32)), (.ref b2), (.int (0 : Int32)), (.ref ahd)])) rfl (by rw [hml]; rfl) (argsL := [(.int (8 : Int32)), (.int (0 : Int32))]) (rest := [(.int (0 : Int32)), (.ref b2), (.int (0 : Int32)), (.ref ahd)]) (lenOf pd_15 rfl) rfl (by show 2 * 0 + _ ≤ _; exact Nat.le_of_eq rfl) (hb hby d22_25) (fun _ _ => ⟨rfl, e2, (by decide : 1 + 0 ≤ _), (by decide : 0 + 0 ≤ _)⟩)
  dsimp only [Pt.U, Pt.locs, Pt.cells, Pt.slots] at X4 l4 y4 z4 st4 hQ4
  subst l4 y4 z4
  obtain ⟨rfl, N4q, e4⟩ := hQ4
  have N4 := Fr.app N0 N4q
  rw [show sp23 (8 : Int32) (0 : Int32) = (0 : Int32) from by decide] at st4
  obtain ⟨T5, h5, Lc5, X5, e5, N5, K5q, Vc5, st5⟩ := cpA X4 hx hZ hown (hw _ (List.mem_of_getElem? (i := 179) rfl)) (hw _ (List.mem_of_getElem? (i := 182) rfl)) (hw _ (List.mem_of_getElem? (i := 180) rfl)) (hw _ (List.mem_of_getElem? (i := 181) rfl)) e4 c2_V_ahd V2 (Or.inl ⟨rfl, rfl⟩) (by decide) (by decide) (by decide) (by decide) (by decide) (us := []) rfl (by decide) N4 g_b2 (g := (mkF m 28 #[.val (.ref ahd), .val (.int (0 : Int32)), .val (.ref b2)] [(.int (0 : Int32)), (.int (0 : Int32)), (.ref b2), (.int (0 : Int32)), (.ref ahd)])) rfl (by rw [hml]; rfl) rfl (hb hby d22_28) (by decide) (W := 0) (by show 2 * 0 + _ ≤ _; exact Nat.le_of_eq rfl) (by decide)
  have K5 : Keep h0 h5 [] := K2.trans K5q (fun x hx => by simp only [List.mem_cons, List.not_mem_nil, or_false] at hx; rcases hx with rfl <;> first | exact (Or.inr sz_b2))
  have V5 : Arv Z h5 b2 k2 .int (0 : Int32) [] (.int (0 : Int32)) := Vc5
  obtain ⟨fs, hr, hrun, hended, hW, hsame⟩ := X5.leave (v := some (.ref b2)) (fun h => by rw [Bd.returns] at h; cases h)
  refine ⟨_, _, pre0 _ ?_, hrun, hended, _, _, rfl, ?_, ⟨_, rfl⟩, hW, hsame.mono (by decide) (by decide)⟩
  · show Steps p.tables e below (s₁.setTop (mkF m 0 #[.val (.ref ahd), .val (.int (0 : Int32)), .unset] [])) _
    refine XS.iloadN X0.here hx rfl (hb hby d22_0) rfl ?_
    refine XS.aloadN X0.here hx rfl (hb hby d22_1) rfl rfl ?_
    show Steps p.tables e below (s₁.setTop (mkF m 2 #[.val (.ref ahd), .val (.int (0 : Int32)), .unset] [(.ref ahd), (.int (0 : Int32))])) _
    refine X0.arraylength hx (by rw [e0]; exact Ar_1.1) (State.isArrayOf_alike hZ.alike Ar_1.2.1) (g := (mkF m 2 #[.val (.ref ahd), .val (.int (0 : Int32)), .unset] [(.ref ahd), (.int (0 : Int32))])) rfl rfl (hb hby d22_2) _ ?_
    rw [len_of S_1 N_1]
    show Steps p.tables e below (s₁.setTop (mkF m 3 #[.val (.ref ahd), .val (.int (0 : Int32)), .unset] [(.int (8 : Int32)), (.int (0 : Int32))])) _
    refine XS.icmpYes X0.here hx rfl (pc0 := 3) (pc' := 14) rfl (hb hby d22_3) rfl (feq (by decide : ¬ ((0 : Int32) = (8 : Int32)))).2 (by decide) (by decide) ?_
    refine XS.iloadN X0.here hx rfl (hb hby d22_14) rfl ?_
    show Steps p.tables e below (s₁.setTop (mkF m 15 #[.val (.ref ahd), .val (.int (0 : Int32)), .unset] [(.int (0 : Int32))])) _
    refine st2 _ ?_
    show Steps p.tables e below (T2.setTop (mkF m 17 #[.val (.ref ahd), .val (.int (0 : Int32)), .unset] [(.ref b2)])) _
    refine XS.astoreN X2.here hx rfl (hb hby d22_17) rfl rfl (l' := #[.val (.ref ahd), .val (.int (0 : Int32)), .val (.ref b2)]) rfl ?_
    refine XS.aloadN X2.here hx rfl (hb hby d22_18) rfl rfl ?_
    refine XS.iconst X2.here hx rfl (hb hby d22_19) ?_
    refine XS.aloadN X2.here hx rfl (hb hby d22_20) rfl rfl ?_
    show Steps p.tables e below (T2.setTop (mkF m 21 #[.val (.ref ahd), .val (.int (0 : Int32)), .val (.ref b2)] [(.ref b2), (.int (0 : Int32)), (.ref ahd)])) _
    refine XS.iconst X2.here hx rfl (hb hby d22_21) ?_
    refine XS.aloadN X2.here hx rfl (hb hby d22_22) rfl rfl ?_
    show Steps p.tables e below (T2.setTop (mkF m 23 #[.val (.ref ahd), .val (.int (0 : Int32)), .val (.ref b2)] [(.ref ahd), (.int (0 : Int32)), (.ref b2), (.int (0 : Int32)), (.ref ahd)])) _
    refine X2.arraylength hx (by rw [e2]; exact Ar_3.1) (State.isArrayOf_alike hZ.alike Ar_3.2.1) (g := (mkF m 23 #[.val (.ref ahd), .val (.int (0 : Int32)), .val (.ref b2)] [(.ref ahd), (.int (0 : Int32)), (.ref b2), (.int (0 : Int32)), (.ref ahd)])) rfl rfl (hb hby d22_23) _ ?_
    rw [len_of S_3 N_3]
    refine XS.iloadN X2.here hx rfl (hb hby d22_24) rfl ?_
    show Steps p.tables e below (T2.setTop (mkF m 25 #[.val (.ref ahd), .val (.int (0 : Int32)), .val (.ref b2)] [(.int (0 : Int32)), (.int (8 : Int32)), (.int (0 : Int32)), (.ref b2), (.int (0 : Int32)), (.ref ahd)])) _
    refine st4 _ ?_
    show Steps p.tables e below (T4.setTop (mkF m 28 #[.val (.ref ahd), .val (.int (0 : Int32)), .val (.ref b2)] [(.int (0 : Int32)), (.int (0 : Int32)), (.ref b2), (.int (0 : Int32)), (.ref ahd)])) _
    refine st5 _ ?_
    refine XS.aloadN X5.here hx rfl (hb hby d22_31) rfl rfl ?_
    show Steps p.tables e below (T5.setTop (mkF m 32 #[.val (.ref ahd), .val (.int (0 : Int32)), .val (.ref b2)] [(.ref b2)])) _
    jvm_step X5.here [X5.here.top, hx, (hb hby d22_32), X5.method', Bd.returns, Value.isRef, FieldType.isReference]
    first | (intro acts; rw [hr _ acts rfl rfl rfl]) | rw [hr _ _ rfl rfl rfl]
    exact Steps.refl _
  · show Q22k0 Z ahd kh v0 h0 n0 _ T5.heap _
    rw [e5]
    exact ⟨b2, k2, rfl, N5, K5, V5, g_b2, sz_b2⟩
def Q22k1 (Z : State) (ahd : Addr) (kh : ClassId) (v0 : Int32) (h0 : Heap) (n0 : Nat) (v : Option Value) (h : Heap) (L : List Loc) : Prop := ∃ (b2 : Addr), ∃ (k2 : ClassId), v = some (.ref b2) ∧ Fr n0 L ∧ Keep h0 h [] ∧ Arv Z h b2 k2 .int (1 : Int32) [(.int v0)] (.int (0 : Int32)) ∧ n0 ≤ b2 ∧ h0.size ≤ b2
set_option maxRecDepth 65536 in
set_option maxHeartbeats 40000000 in
theorem rm22k1 (l : Launch) (Z : State) (a0 : Array Value) (hw : ∀ d ∈ tables_1, d.before a0 Z = true) (ws : List Jvm.Cond) (ahd : Addr) (kh : ClassId) (v0 : Int32) (h0 : Heap) (n0 : Nat) (Z0 : n0 ≤ h0.size) (V_ahd : Arv Z h0 ahd kh .int (8 : Int32) [(.int v0), (.int (0 : Int32)), (.int (0 : Int32)), (.int (0 : Int32)), (.int (0 : Int32)), (.int (0 : Int32)), (.int (0 : Int32)), (.int (0 : Int32))] (.int (0 : Int32))) :
    MetFree l (⟨"java/util/Arrays", "copyOf", "([II)[I"⟩ : MethodName) (head1 (Jvm.Cond.code (⟨"java/util/Arrays", "copyOf", "([II)[I"⟩ : MethodName) jdk_65_method_123_code 3 (some (.array .int)) :: ws) ({ frames := 1, cells := 1, slots := 1, locals := 40 } : Room)) (fun a U => a = #[(.ref ahd), (.int (1 : Int32))] ∧ Z.Warmed39 U.vm ∧ U.heap = h0) (fun _ _ _ _ _ => True) (fun _ U o U' => ∃ v L, o = .returned v ∧ Q22k1 Z ahd kh v0 h0 n0 v U'.heap L ∧ FrameEnd U o U' L ({ frames := 1, cells := 1, slots := 1, locals := 40 } : Room).cells ({ frames := 1, cells := 1, slots := 1, locals := 40 } : Room).slots) := by
  refine MetFree.of_bodySF (plainFor_of_name pn_22) hisR ?_
  intro p e s m args below meth c s₁ Bd hml0 hP hK
  obtain ⟨rfl, hZ, hh⟩ := hP
  have hx := Bd.exec
  have hby := Bd.bytes
  have hml : c.maxLocals = 3 := hml0
  have hown : s.vm.findClass "java/util/Arrays" = some m.cls := findClass_of_methodNamed Bd.named
  have X0 : Stand p l e ({ frames := 1, cells := 1, slots := 1, locals := 40 } : Room) s m #[(.ref ahd), (.int (1 : Int32))] below meth c s₁ [] 0 0 := Stand.of_body Bd
  have e0 : s₁.heap = h0 := by rw [← hh, Bd.state]; rfl
  have N0 := Fr.nil n0
  have pre0 : ∀ t, Steps p.tables e below (s₁.setTop (mkF m 0 #[.val (.ref ahd), .val (.int (1 : Int32)), .unset] [])) t → Steps p.tables e below (s₁.setTop (entryFrame m #[(.ref ahd), (.int (1 : Int32))] 3)) t := fun t k => castTop (ef_22 m ahd (1 : Int32)) k
  have K0 : Keep h0 h0 [] := Keep.refl h0 _
  obtain ⟨cl_1, Ar_1, -, S_1, N_1, -, -⟩ := id V_ahd
  obtain ⟨T2, h2, k2, X2, e2, E2, A2, st2⟩ := newP X0 hx hZ (hw _ (List.mem_of_getElem? (i := 49) rfl)) e0 (g := (mkF m 15 #[.val (.ref ahd), .val (.int (1 : Int32)), .unset] [(.int (1 : Int32))])) rfl (hb hby d22_15) rfl (by decide) (cap := 1) (by decide) (by decide) (by decide) (by decide)
  obtain ⟨b2, g2⟩ : ∃ z, z = h0.size := ⟨_, rfl⟩
  rw [← g2] at A2 st2
  have g_b2 : n0 ≤ b2 := Nat.le_trans Z0 (Nat.le_of_eq g2.symm)
  have Z2 : n0 ≤ h2.size := Nat.le_trans Z0 E2.1
  have sz_b2 : h0.size ≤ b2 := Nat.le_trans K0.1 (Nat.le_of_eq g2.symm)
  have K2 : Keep h0 h2 [] := K0.ext E2
  have c2_V_ahd := V_ahd.ext E2
  have V2 : Arv Z h2 b2 k2 .int (1 : Int32) [(.int (0 : Int32))] (.int (0 : Int32)) := (Arv.new A2 (by decide)).pad (pad_rep [] (.int (0 : Int32)) 1)
  obtain ⟨cl_3, Ar_3, -, S_3, N_3, -, -⟩ := id c2_V_ahd
  obtain ⟨_, _, ⟨T4, L4, k4, n4⟩, -, X4, ⟨Lc4, hQ4, l4, y4, z4⟩, st4⟩ := Jvm.LawKit.callS X2 hx (y := (⟨"java/lang/Math", "min", "(II)I"⟩ : MethodName)) hown (mvT hZ (hw _ (List.mem_of_getElem? (i := 175) rfl))) (mvT hZ (hw _ (List.mem_of_getElem? (i := 176) rfl))) (mvT hZ (hw _ (List.mem_of_getElem? (i := 177) rfl))) (mvT hZ (hw _ (List.mem_of_getElem? (i := 178) rfl))) (by decide) (backOf (W := 4) (rm23 l Z a0 hw [] (8 : Int32) (1 : Int32) h2 n0 Z2) hZ (hw _ (List.mem_of_getElem? (i := 178) rfl)) (hw _ (List.mem_of_getElem? (i := 177) rfl)) (by decide) (by decide)) (g := (mkF m 25 #[.val (.ref ahd), .val (.int (1 : Int32)), .val (.ref b2)] [(.int (1 : Int32)), (.int (8 : Int32)), (.int (0 : Int32)), (.ref b2), (.int (0 : Int32)), (.ref ahd)])) rfl (by rw [hml]; rfl) (argsL := [(.int (8 : Int32)), (.int (1 : Int32))]) (rest := [(.int (0 : Int32)), (.ref b2), (.int (0 : Int32)), (.ref ahd)]) (lenOf pd_15 rfl) rfl (by show 2 * 0 + _ ≤ _; exact Nat.le_of_eq rfl) (hb hby d22_25) (fun _ _ => ⟨rfl, e2, (by decide : 1 + 0 ≤ _), (by decide : 1 + 0 ≤ _)⟩)
  dsimp only [Pt.U, Pt.locs, Pt.cells, Pt.slots] at X4 l4 y4 z4 st4 hQ4
  subst l4 y4 z4
  obtain ⟨rfl, N4q, e4⟩ := hQ4
  have N4 := Fr.app N0 N4q
  rw [show sp23 (8 : Int32) (1 : Int32) = (1 : Int32) from by decide] at st4
  obtain ⟨T5, h5, Lc5, X5, e5, N5, K5q, Vc5, st5⟩ := cpA X4 hx hZ hown (hw _ (List.mem_of_getElem? (i := 179) rfl)) (hw _ (List.mem_of_getElem? (i := 182) rfl)) (hw _ (List.mem_of_getElem? (i := 180) rfl)) (hw _ (List.mem_of_getElem? (i := 181) rfl)) e4 c2_V_ahd V2 (Or.inl ⟨rfl, rfl⟩) (by decide) (by decide) (by decide) (by decide) (by decide) (us := [(.int v0)]) rfl (by decide) N4 g_b2 (g := (mkF m 28 #[.val (.ref ahd), .val (.int (1 : Int32)), .val (.ref b2)] [(.int (1 : Int32)), (.int (0 : Int32)), (.ref b2), (.int (0 : Int32)), (.ref ahd)])) rfl (by rw [hml]; rfl) rfl (hb hby d22_28) (by decide) (W := 0) (by show 2 * 0 + _ ≤ _; exact Nat.le_of_eq rfl) (by decide)
  have K5 : Keep h0 h5 [] := K2.trans K5q (fun x hx => by simp only [List.mem_cons, List.not_mem_nil, or_false] at hx; rcases hx with rfl <;> first | exact (Or.inr sz_b2))
  have V5 : Arv Z h5 b2 k2 .int (1 : Int32) [(.int v0)] (.int (0 : Int32)) := Vc5
  obtain ⟨fs, hr, hrun, hended, hW, hsame⟩ := X5.leave (v := some (.ref b2)) (fun h => by rw [Bd.returns] at h; cases h)
  refine ⟨_, _, pre0 _ ?_, hrun, hended, _, _, rfl, ?_, ⟨_, rfl⟩, hW, hsame.mono (by decide) (by decide)⟩
  · show Steps p.tables e below (s₁.setTop (mkF m 0 #[.val (.ref ahd), .val (.int (1 : Int32)), .unset] [])) _
    refine XS.iloadN X0.here hx rfl (hb hby d22_0) rfl ?_
    refine XS.aloadN X0.here hx rfl (hb hby d22_1) rfl rfl ?_
    show Steps p.tables e below (s₁.setTop (mkF m 2 #[.val (.ref ahd), .val (.int (1 : Int32)), .unset] [(.ref ahd), (.int (1 : Int32))])) _
    refine X0.arraylength hx (by rw [e0]; exact Ar_1.1) (State.isArrayOf_alike hZ.alike Ar_1.2.1) (g := (mkF m 2 #[.val (.ref ahd), .val (.int (1 : Int32)), .unset] [(.ref ahd), (.int (1 : Int32))])) rfl rfl (hb hby d22_2) _ ?_
    rw [len_of S_1 N_1]
    show Steps p.tables e below (s₁.setTop (mkF m 3 #[.val (.ref ahd), .val (.int (1 : Int32)), .unset] [(.int (8 : Int32)), (.int (1 : Int32))])) _
    refine XS.icmpYes X0.here hx rfl (pc0 := 3) (pc' := 14) rfl (hb hby d22_3) rfl (feq (by decide : ¬ ((1 : Int32) = (8 : Int32)))).2 (by decide) (by decide) ?_
    refine XS.iloadN X0.here hx rfl (hb hby d22_14) rfl ?_
    show Steps p.tables e below (s₁.setTop (mkF m 15 #[.val (.ref ahd), .val (.int (1 : Int32)), .unset] [(.int (1 : Int32))])) _
    refine st2 _ ?_
    show Steps p.tables e below (T2.setTop (mkF m 17 #[.val (.ref ahd), .val (.int (1 : Int32)), .unset] [(.ref b2)])) _
    refine XS.astoreN X2.here hx rfl (hb hby d22_17) rfl rfl (l' := #[.val (.ref ahd), .val (.int (1 : Int32)), .val (.ref b2)]) rfl ?_
    refine XS.aloadN X2.here hx rfl (hb hby d22_18) rfl rfl ?_
    refine XS.iconst X2.here hx rfl (hb hby d22_19) ?_
    refine XS.aloadN X2.here hx rfl (hb hby d22_20) rfl rfl ?_
    show Steps p.tables e below (T2.setTop (mkF m 21 #[.val (.ref ahd), .val (.int (1 : Int32)), .val (.ref b2)] [(.ref b2), (.int (0 : Int32)), (.ref ahd)])) _
    refine XS.iconst X2.here hx rfl (hb hby d22_21) ?_
    refine XS.aloadN X2.here hx rfl (hb hby d22_22) rfl rfl ?_
    show Steps p.tables e below (T2.setTop (mkF m 23 #[.val (.ref ahd), .val (.int (1 : Int32)), .val (.ref b2)] [(.ref ahd), (.int (0 : Int32)), (.ref b2), (.int (0 : Int32)), (.ref ahd)])) _
    refine X2.arraylength hx (by rw [e2]; exact Ar_3.1) (State.isArrayOf_alike hZ.alike Ar_3.2.1) (g := (mkF m 23 #[.val (.ref ahd), .val (.int (1 : Int32)), .val (.ref b2)] [(.ref ahd), (.int (0 : Int32)), (.ref b2), (.int (0 : Int32)), (.ref ahd)])) rfl rfl (hb hby d22_23) _ ?_
    rw [len_of S_3 N_3]
    refine XS.iloadN X2.here hx rfl (hb hby d22_24) rfl ?_
    show Steps p.tables e below (T2.setTop (mkF m 25 #[.val (.ref ahd), .val (.int (1 : Int32)), .val (.ref b2)] [(.int (1 : Int32)), (.int (8 : Int32)), (.int (0 : Int32)), (.ref b2), (.int (0 : Int32)), (.ref ahd)])) _
    refine st4 _ ?_
    show Steps p.tables e below (T4.setTop (mkF m 28 #[.val (.ref ahd), .val (.int (1 : Int32)), .val (.ref b2)] [(.int (1 : Int32)), (.int (0 : Int32)), (.ref b2), (.int (0 : Int32)), (.ref ahd)])) _
    refine st5 _ ?_
    refine XS.aloadN X5.here hx rfl (hb hby d22_31) rfl rfl ?_
    show Steps p.tables e below (T5.setTop (mkF m 32 #[.val (.ref ahd), .val (.int (1 : Int32)), .val (.ref b2)] [(.ref b2)])) _
    jvm_step X5.here [X5.here.top, hx, (hb hby d22_32), X5.method', Bd.returns, Value.isRef, FieldType.isReference]
    first | (intro acts; rw [hr _ acts rfl rfl rfl]) | rw [hr _ _ rfl rfl rfl]
    exact Steps.refl _
  · show Q22k1 Z ahd kh v0 h0 n0 _ T5.heap _
    rw [e5]
    exact ⟨b2, k2, rfl, N5, K5, V5, g_b2, sz_b2⟩
theorem ef_21 (m : MethodId) (x0 : Addr) : entryFrame m #[(.ref x0)] 1 = mkF m 0 #[.val (.ref x0)] [] := by first | (simp [entryFrame, mkF, argsToLocals, Value.category]; done) | rfl
def Q21k0 (Z : State) (ar : Addr) (ahd : Addr) (kh : ClassId) (v0 : Int32) (h0 : Heap) (n0 : Nat) (v : Option Value) (h : Heap) (L : List Loc) : Prop := ∃ (b2_3 : Addr), ∃ (k2_3 : ClassId), v = some (.ref b2_3) ∧ Fr n0 L ∧ Keep h0 h [] ∧ Arv Z h b2_3 k2_3 .int (0 : Int32) [] (.int (0 : Int32)) ∧ n0 ≤ b2_3 ∧ h0.size ≤ b2_3
set_option maxRecDepth 65536 in
set_option maxHeartbeats 40000000 in
theorem rm21k0 (l : Launch) (Z : State) (a0 : Array Value) (hw : ∀ d ∈ tables_1, d.before a0 Z = true) (ws : List Jvm.Cond) (ar : Addr) (ahd : Addr) (kh : ClassId) (v0 : Int32) (h0 : Heap) (n0 : Nat) (Z0 : n0 ≤ h0.size) (E_ar : Exa Z h0 ar "com/example/kindgen/kindgen/core/document/RecordOrder") (F_ar_held : Fld Z h0 ar "com/example/kindgen/kindgen/core/document/RecordOrder" "held" "[I" (.ref ahd)) (F_ar_heldCount : Fld Z h0 ar "com/example/kindgen/kindgen/core/document/RecordOrder" "heldCount" "I" (.int (0 : Int32))) (V_ahd : Arv Z h0 ahd kh .int (8 : Int32) [(.int v0), (.int (0 : Int32)), (.int (0 : Int32)), (.int (0 : Int32)), (.int (0 : Int32)), (.int (0 : Int32)), (.int (0 : Int32)), (.int (0 : Int32))] (.int (0 : Int32))) (ne_ar_ahd : ar ≠ ahd) :
    MetFree l (⟨"com/example/kindgen/kindgen/core/document/RecordOrder", "held", "()[I"⟩ : MethodName) (head1 (Jvm.Cond.code (⟨"com/example/kindgen/kindgen/core/document/RecordOrder", "held", "()[I"⟩ : MethodName) prog_72_method_9_code 1 (some (.array .int)) :: ws) ({ frames := 2, cells := 1, slots := 0, locals := 54 } : Room)) (fun a U => a = #[(.ref ar)] ∧ Z.Warmed39 U.vm ∧ U.heap = h0) (fun _ _ _ _ _ => True) (fun _ U o U' => ∃ v L, o = .returned v ∧ Q21k0 Z ar ahd kh v0 h0 n0 v U'.heap L ∧ FrameEnd U o U' L ({ frames := 2, cells := 1, slots := 0, locals := 54 } : Room).cells ({ frames := 2, cells := 1, slots := 0, locals := 54 } : Room).slots) := by
  refine MetFree.of_bodySF (plainFor_of_name pn_21) hisR ?_
  intro p e s m args below meth c s₁ Bd hml0 hP hK
  obtain ⟨rfl, hZ, hh⟩ := hP
  have hx := Bd.exec
  have hby := Bd.bytes
  have hml : c.maxLocals = 1 := hml0
  have hown : s.vm.findClass "com/example/kindgen/kindgen/core/document/RecordOrder" = some m.cls := findClass_of_methodNamed Bd.named
  have X0 : Stand p l e ({ frames := 2, cells := 1, slots := 0, locals := 54 } : Room) s m #[(.ref ar)] below meth c s₁ [] 0 0 := Stand.of_body Bd
  have e0 : s₁.heap = h0 := by rw [← hh, Bd.state]; rfl
  have N0 := Fr.nil n0
  have pre0 : ∀ t, Steps p.tables e below (s₁.setTop (mkF m 0 #[.val (.ref ar)] [])) t → Steps p.tables e below (s₁.setTop (entryFrame m #[(.ref ar)] 1)) t := fun t k => castTop (ef_21 m ar) k
  have K0 : Keep h0 h0 [] := Keep.refl h0 _
  obtain ⟨T1, X1, e1, st1⟩ := getF X0 hx hZ hown (host := "") (Or.inl (hw _ (List.mem_of_getElem? (i := 50) rfl))) Via.refl e0 F_ar_held (g := (mkF m 1 #[.val (.ref ar)] [(.ref ar)])) rfl rfl (hb hby d21_1)
  obtain ⟨T2, X2, e2, st2⟩ := getF X1 hx hZ hown (host := "") (Or.inl (hw _ (List.mem_of_getElem? (i := 164) rfl))) Via.refl e1 F_ar_heldCount (g := (mkF m 5 #[.val (.ref ar)] [(.ref ar), (.ref ahd)])) rfl rfl (hb hby d21_5)
  obtain ⟨_, _, ⟨T3, L3, k3, n3⟩, -, X3, ⟨Lc3, hQ3, l3, y3, z3⟩, st3⟩ := Jvm.LawKit.callS X2 hx (y := (⟨"java/util/Arrays", "copyOf", "([II)[I"⟩ : MethodName)) hown (mvT hZ (hw _ (List.mem_of_getElem? (i := 171) rfl))) (mvT hZ (hw _ (List.mem_of_getElem? (i := 172) rfl))) (mvT hZ (hw _ (List.mem_of_getElem? (i := 173) rfl))) (mvT hZ (hw _ (List.mem_of_getElem? (i := 174) rfl))) (by decide) (backOf (W := 0) (rm22k0 l Z a0 hw [] ahd kh v0 h0 n0 Z0 V_ahd) hZ (hw _ (List.mem_of_getElem? (i := 174) rfl)) (hw _ (List.mem_of_getElem? (i := 173) rfl)) (by decide) (by decide)) (g := (mkF m 8 #[.val (.ref ar)] [(.int (0 : Int32)), (.ref ahd)])) rfl (by rw [hml]; rfl) (argsL := [(.ref ahd), (.int (0 : Int32))]) (rest := []) (lenOf pd_14 rfl) rfl (by show 2 * 0 + _ ≤ _; exact Nat.le_of_eq rfl) (hb hby d21_8) (fun _ _ => ⟨rfl, e2, (by decide : 0 + 1 ≤ _), (by decide : 0 + 0 ≤ _)⟩)
  dsimp only [Pt.U, Pt.locs, Pt.cells, Pt.slots] at X3 l3 y3 z3 st3 hQ3
  subst l3 y3 z3
  obtain ⟨b2_3, k2_3, rfl, N3q, K3q, t3_0, t3_1, t3_2⟩ := hQ3
  have N3 := Fr.app N0 N3q
  have sz_b2_3 : h0.size ≤ b2_3 := Nat.le_trans K0.1 t3_2
  have K3 : Keep h0 T3.heap [] := K0.trans K3q (fun x hx => by cases hx)
  obtain ⟨fs, hr, hrun, hended, hW, hsame⟩ := X3.leave (v := some (.ref b2_3)) (fun h => by rw [Bd.returns] at h; cases h)
  refine ⟨_, _, pre0 _ ?_, hrun, hended, _, _, rfl, ?_, ⟨_, rfl⟩, hW, hsame.mono (by decide) (by decide)⟩
  · show Steps p.tables e below (s₁.setTop (mkF m 0 #[.val (.ref ar)] [])) _
    refine XS.aloadN X0.here hx rfl (hb hby d21_0) rfl rfl ?_
    show Steps p.tables e below (s₁.setTop (mkF m 1 #[.val (.ref ar)] [(.ref ar)])) _
    refine st1 _ ?_
    refine XS.aloadN X1.here hx rfl (hb hby d21_4) rfl rfl ?_
    show Steps p.tables e below (T1.setTop (mkF m 5 #[.val (.ref ar)] [(.ref ar), (.ref ahd)])) _
    refine st2 _ ?_
    show Steps p.tables e below (T2.setTop (mkF m 8 #[.val (.ref ar)] [(.int (0 : Int32)), (.ref ahd)])) _
    refine st3 _ ?_
    show Steps p.tables e below (T3.setTop (mkF m 11 #[.val (.ref ar)] [(.ref b2_3)])) _
    jvm_step X3.here [X3.here.top, hx, (hb hby d21_11), X3.method', Bd.returns, Value.isRef, FieldType.isReference]
    first | (intro acts; rw [hr _ acts rfl rfl rfl]) | rw [hr _ _ rfl rfl rfl]
    exact Steps.refl _
  · show Q21k0 Z ar ahd kh v0 h0 n0 _ T3.heap _
    exact ⟨b2_3, k2_3, rfl, N3, K3, t3_0, t3_1, sz_b2_3⟩
def Q21k1 (Z : State) (ar : Addr) (ahd : Addr) (kh : ClassId) (v0 : Int32) (h0 : Heap) (n0 : Nat) (v : Option Value) (h : Heap) (L : List Loc) : Prop := ∃ (b2_3 : Addr), ∃ (k2_3 : ClassId), v = some (.ref b2_3) ∧ Fr n0 L ∧ Keep h0 h [] ∧ Arv Z h b2_3 k2_3 .int (1 : Int32) [(.int v0)] (.int (0 : Int32)) ∧ n0 ≤ b2_3 ∧ h0.size ≤ b2_3
set_option maxRecDepth 65536 in
set_option maxHeartbeats 40000000 in
theorem rm21k1 (l : Launch) (Z : State) (a0 : Array Value) (hw : ∀ d ∈ tables_1, d.before a0 Z = true) (ws : List Jvm.Cond) (ar : Addr) (ahd : Addr) (kh : ClassId) (v0 : Int32) (h0 : Heap) (n0 : Nat) (Z0 : n0 ≤ h0.size) (E_ar : Exa Z h0 ar "com/example/kindgen/kindgen/core/document/RecordOrder") (F_ar_held : Fld Z h0 ar "com/example/kindgen/kindgen/core/document/RecordOrder" "held" "[I" (.ref ahd)) (F_ar_heldCount : Fld Z h0 ar "com/example/kindgen/kindgen/core/document/RecordOrder" "heldCount" "I" (.int (1 : Int32))) (V_ahd : Arv Z h0 ahd kh .int (8 : Int32) [(.int v0), (.int (0 : Int32)), (.int (0 : Int32)), (.int (0 : Int32)), (.int (0 : Int32)), (.int (0 : Int32)), (.int (0 : Int32)), (.int (0 : Int32))] (.int (0 : Int32))) (ne_ar_ahd : ar ≠ ahd) :
    MetFree l (⟨"com/example/kindgen/kindgen/core/document/RecordOrder", "held", "()[I"⟩ : MethodName) (head1 (Jvm.Cond.code (⟨"com/example/kindgen/kindgen/core/document/RecordOrder", "held", "()[I"⟩ : MethodName) prog_72_method_9_code 1 (some (.array .int)) :: ws) ({ frames := 2, cells := 1, slots := 1, locals := 54 } : Room)) (fun a U => a = #[(.ref ar)] ∧ Z.Warmed39 U.vm ∧ U.heap = h0) (fun _ _ _ _ _ => True) (fun _ U o U' => ∃ v L, o = .returned v ∧ Q21k1 Z ar ahd kh v0 h0 n0 v U'.heap L ∧ FrameEnd U o U' L ({ frames := 2, cells := 1, slots := 1, locals := 54 } : Room).cells ({ frames := 2, cells := 1, slots := 1, locals := 54 } : Room).slots) := by
  refine MetFree.of_bodySF (plainFor_of_name pn_21) hisR ?_
  intro p e s m args below meth c s₁ Bd hml0 hP hK
  obtain ⟨rfl, hZ, hh⟩ := hP
  have hx := Bd.exec
  have hby := Bd.bytes
  have hml : c.maxLocals = 1 := hml0
  have hown : s.vm.findClass "com/example/kindgen/kindgen/core/document/RecordOrder" = some m.cls := findClass_of_methodNamed Bd.named
  have X0 : Stand p l e ({ frames := 2, cells := 1, slots := 1, locals := 54 } : Room) s m #[(.ref ar)] below meth c s₁ [] 0 0 := Stand.of_body Bd
  have e0 : s₁.heap = h0 := by rw [← hh, Bd.state]; rfl
  have N0 := Fr.nil n0
  have pre0 : ∀ t, Steps p.tables e below (s₁.setTop (mkF m 0 #[.val (.ref ar)] [])) t → Steps p.tables e below (s₁.setTop (entryFrame m #[(.ref ar)] 1)) t := fun t k => castTop (ef_21 m ar) k
  have K0 : Keep h0 h0 [] := Keep.refl h0 _
  obtain ⟨T1, X1, e1, st1⟩ := getF X0 hx hZ hown (host := "") (Or.inl (hw _ (List.mem_of_getElem? (i := 50) rfl))) Via.refl e0 F_ar_held (g := (mkF m 1 #[.val (.ref ar)] [(.ref ar)])) rfl rfl (hb hby d21_1)
  obtain ⟨T2, X2, e2, st2⟩ := getF X1 hx hZ hown (host := "") (Or.inl (hw _ (List.mem_of_getElem? (i := 164) rfl))) Via.refl e1 F_ar_heldCount (g := (mkF m 5 #[.val (.ref ar)] [(.ref ar), (.ref ahd)])) rfl rfl (hb hby d21_5)
  obtain ⟨_, _, ⟨T3, L3, k3, n3⟩, -, X3, ⟨Lc3, hQ3, l3, y3, z3⟩, st3⟩ := Jvm.LawKit.callS X2 hx (y := (⟨"java/util/Arrays", "copyOf", "([II)[I"⟩ : MethodName)) hown (mvT hZ (hw _ (List.mem_of_getElem? (i := 171) rfl))) (mvT hZ (hw _ (List.mem_of_getElem? (i := 172) rfl))) (mvT hZ (hw _ (List.mem_of_getElem? (i := 173) rfl))) (mvT hZ (hw _ (List.mem_of_getElem? (i := 174) rfl))) (by decide) (backOf (W := 0) (rm22k1 l Z a0 hw [] ahd kh v0 h0 n0 Z0 V_ahd) hZ (hw _ (List.mem_of_getElem? (i := 174) rfl)) (hw _ (List.mem_of_getElem? (i := 173) rfl)) (by decide) (by decide)) (g := (mkF m 8 #[.val (.ref ar)] [(.int (1 : Int32)), (.ref ahd)])) rfl (by rw [hml]; rfl) (argsL := [(.ref ahd), (.int (1 : Int32))]) (rest := []) (lenOf pd_14 rfl) rfl (by show 2 * 0 + _ ≤ _; exact Nat.le_of_eq rfl) (hb hby d21_8) (fun _ _ => ⟨rfl, e2, (by decide : 0 + 1 ≤ _), (by decide : 0 + 1 ≤ _)⟩)
  dsimp only [Pt.U, Pt.locs, Pt.cells, Pt.slots] at X3 l3 y3 z3 st3 hQ3
  subst l3 y3 z3
  obtain ⟨b2_3, k2_3, rfl, N3q, K3q, t3_0, t3_1, t3_2⟩ := hQ3
  have N3 := Fr.app N0 N3q
  have sz_b2_3 : h0.size ≤ b2_3 := Nat.le_trans K0.1 t3_2
  have K3 : Keep h0 T3.heap [] := K0.trans K3q (fun x hx => by cases hx)
  obtain ⟨fs, hr, hrun, hended, hW, hsame⟩ := X3.leave (v := some (.ref b2_3)) (fun h => by rw [Bd.returns] at h; cases h)
  refine ⟨_, _, pre0 _ ?_, hrun, hended, _, _, rfl, ?_, ⟨_, rfl⟩, hW, hsame.mono (by decide) (by decide)⟩
  · show Steps p.tables e below (s₁.setTop (mkF m 0 #[.val (.ref ar)] [])) _
    refine XS.aloadN X0.here hx rfl (hb hby d21_0) rfl rfl ?_
    show Steps p.tables e below (s₁.setTop (mkF m 1 #[.val (.ref ar)] [(.ref ar)])) _
    refine st1 _ ?_
    refine XS.aloadN X1.here hx rfl (hb hby d21_4) rfl rfl ?_
    show Steps p.tables e below (T1.setTop (mkF m 5 #[.val (.ref ar)] [(.ref ar), (.ref ahd)])) _
    refine st2 _ ?_
    show Steps p.tables e below (T2.setTop (mkF m 8 #[.val (.ref ar)] [(.int (1 : Int32)), (.ref ahd)])) _
    refine st3 _ ?_
    show Steps p.tables e below (T3.setTop (mkF m 11 #[.val (.ref ar)] [(.ref b2_3)])) _
    jvm_step X3.here [X3.here.top, hx, (hb hby d21_11), X3.method', Bd.returns, Value.isRef, FieldType.isReference]
    first | (intro acts; rw [hr _ acts rfl rfl rfl]) | rw [hr _ _ rfl rfl rfl]
    exact Steps.refl _
  · show Q21k1 Z ar ahd kh v0 h0 n0 _ T3.heap _
    exact ⟨b2_3, k2_3, rfl, N3, K3, t3_0, t3_1, sz_b2_3⟩
theorem ef_24 (m : MethodId) (x0 : Int32) (x1 : Int32) : entryFrame m #[(.int x0), (.int x1)] 2 = mkF m 0 #[.val (.int x0), .val (.int x1)] [] := by first | (simp [entryFrame, mkF, argsToLocals, Value.category]; done) | rfl
def sp24 (p1 : Int32) (p2 : Int32) : Int32 := (if p2 < (0 : Int32) then (0 : Int32) else (if p1 < (0 : Int32) then (1 : Int32) else (if p2 < p1 then (1 : Int32) else (0 : Int32))))
def Q24 (Z : State) (p1 : Int32) (p2 : Int32) (h0 : Heap) (n0 : Nat) (v : Option Value) (h : Heap) (L : List Loc) : Prop := v = some (.int (sp24 p1 p2)) ∧ Fr n0 L ∧ h = h0
set_option maxRecDepth 65536 in
set_option maxHeartbeats 40000000 in
theorem rm24 (l : Launch) (Z : State) (a0 : Array Value) (hw : ∀ d ∈ tables_1, d.before a0 Z = true) (ws : List Jvm.Cond) (p1 : Int32) (p2 : Int32)  (h0 : Heap) (n0 : Nat) (Z0 : n0 ≤ h0.size)  :
    MetFree l (⟨"com/example/kindgen/kindgen/core/document/RecordOrderMemberPinLaw", "pair", "(II)Z"⟩ : MethodName) (head1 (Jvm.Cond.code (⟨"com/example/kindgen/kindgen/core/document/RecordOrderMemberPinLaw", "pair", "(II)Z"⟩ : MethodName) method_2_code 2 (some .boolean) :: ws) ({ frames := 0, cells := 0, slots := 0, locals := 0 } : Room)) (fun a U => a = #[(.int p1), (.int p2)] ∧ Z.Warmed39 U.vm ∧ U.heap = h0) (fun _ _ _ _ _ => True) (fun _ U o U' => ∃ v L, o = .returned v ∧ Q24 Z p1 p2 h0 n0 v U'.heap L ∧ FrameEnd U o U' L ({ frames := 0, cells := 0, slots := 0, locals := 0 } : Room).cells ({ frames := 0, cells := 0, slots := 0, locals := 0 } : Room).slots) := by
  refine MetFree.of_bodySF (plainFor_of_name pn_24) hisR ?_
  intro p e s m args below meth c s₁ Bd hml0 hP hK
  obtain ⟨rfl, hZ, hh⟩ := hP
  have hx := Bd.exec
  have hby := Bd.bytes
  have X0 : Stand p l e ({ frames := 0, cells := 0, slots := 0, locals := 0 } : Room) s m #[(.int p1), (.int p2)] below meth c s₁ [] 0 0 := Stand.of_body Bd
  have e0 : s₁.heap = h0 := by rw [← hh, Bd.state]; rfl
  have N0 := Fr.nil n0
  have pre0 : ∀ t, Steps p.tables e below (s₁.setTop (mkF m 0 #[.val (.int p1), .val (.int p2)] [])) t → Steps p.tables e below (s₁.setTop (entryFrame m #[(.int p1), (.int p2)] 2)) t := fun t k => castTop (ef_24 m p1 p2) k
  have pre1 : ∀ t, Steps p.tables e below (s₁.setTop (mkF m 1 #[.val (.int p1), .val (.int p2)] [(.int p2)])) t → Steps p.tables e below (s₁.setTop (entryFrame m #[(.int p1), (.int p2)] 2)) t := by
    intro t k
    refine pre0 t ?_
    show Steps p.tables e below (s₁.setTop (mkF m 0 #[.val (.int p1), .val (.int p2)] [])) _
    refine XS.iloadN X0.here hx rfl (hb hby d24_0) rfl ?_
    exact k
  by_cases hc1_2 : p2 < (0 : Int32)
  · obtain ⟨fs, hr, hrun, hended, hW, hsame⟩ := X0.leave (v := some (.int (0 : Int32))) (fun h => by rw [Bd.returns] at h; cases h)
    refine ⟨_, _, pre1 _ ?_, hrun, hended, _, _, rfl, ?_, ⟨_, rfl⟩, hW, hsame.mono (by decide) (by decide)⟩
    · show Steps p.tables e below (s₁.setTop (mkF m 1 #[.val (.int p1), .val (.int p2)] [(.int p2)])) _
      refine XS.ifYes X0.here hx rfl (pc0 := 1) (pc' := 17) rfl (hb hby d24_1) rfl ((if0 _ _).trans (tlt hc1_2).1) (by decide) (by decide) ?_
      refine XS.iconst X0.here hx rfl (hb hby d24_17) ?_
      show Steps p.tables e below (s₁.setTop (mkF m 18 #[.val (.int p1), .val (.int p2)] [(.int (0 : Int32))])) _
      exact retN X0 hx (t := .boolean) Bd.returns (by simp) (hb hby d24_18) hr
    · show Q24 Z p1 p2 h0 n0 _ s₁.heap _
      rw [e0]
      exact ⟨by rw [sp24, if_pos hc1_2], N0, rfl⟩
  · have pre3 : ∀ t, Steps p.tables e below (s₁.setTop (mkF m 5 #[.val (.int p1), .val (.int p2)] [(.int p1)])) t → Steps p.tables e below (s₁.setTop (entryFrame m #[(.int p1), (.int p2)] 2)) t := by
      intro t k
      refine pre1 t ?_
      show Steps p.tables e below (s₁.setTop (mkF m 1 #[.val (.int p1), .val (.int p2)] [(.int p2)])) _
      refine XS.ifNo X0.here hx rfl (hb hby d24_1) rfl ((if0 _ _).trans (flt hc1_2).1) ?_
      refine XS.iloadN X0.here hx rfl (hb hby d24_4) rfl ?_
      exact k
    by_cases hc5_4 : p1 < (0 : Int32)
    · obtain ⟨fs, hr, hrun, hended, hW, hsame⟩ := X0.leave (v := some (.int (1 : Int32))) (fun h => by rw [Bd.returns] at h; cases h)
      refine ⟨_, _, pre3 _ ?_, hrun, hended, _, _, rfl, ?_, ⟨_, rfl⟩, hW, hsame.mono (by decide) (by decide)⟩
      · show Steps p.tables e below (s₁.setTop (mkF m 5 #[.val (.int p1), .val (.int p2)] [(.int p1)])) _
        refine XS.ifYes X0.here hx rfl (pc0 := 5) (pc' := 13) rfl (hb hby d24_5) rfl ((if0 _ _).trans (tlt hc5_4).1) (by decide) (by decide) ?_
        refine XS.iconst X0.here hx rfl (hb hby d24_13) ?_
        refine XS.goto X0.here hx rfl (pc0 := 14) (pc' := 18) rfl (hb hby d24_14) (by decide) (by decide) ?_
        show Steps p.tables e below (s₁.setTop (mkF m 18 #[.val (.int p1), .val (.int p2)] [(.int (1 : Int32))])) _
        exact retN X0 hx (t := .boolean) Bd.returns (by simp) (hb hby d24_18) hr
      · show Q24 Z p1 p2 h0 n0 _ s₁.heap _
        rw [e0]
        exact ⟨by rw [sp24, if_neg hc1_2, if_pos hc5_4], N0, rfl⟩
    · have pre5 : ∀ t, Steps p.tables e below (s₁.setTop (mkF m 10 #[.val (.int p1), .val (.int p2)] [(.int p1), (.int p2)])) t → Steps p.tables e below (s₁.setTop (entryFrame m #[(.int p1), (.int p2)] 2)) t := by
        intro t k
        refine pre3 t ?_
        show Steps p.tables e below (s₁.setTop (mkF m 5 #[.val (.int p1), .val (.int p2)] [(.int p1)])) _
        refine XS.ifNo X0.here hx rfl (hb hby d24_5) rfl ((if0 _ _).trans (flt hc5_4).1) ?_
        refine XS.iloadN X0.here hx rfl (hb hby d24_8) rfl ?_
        refine XS.iloadN X0.here hx rfl (hb hby d24_9) rfl ?_
        exact k
      by_cases hc10_6 : p2 < p1
      · obtain ⟨fs, hr, hrun, hended, hW, hsame⟩ := X0.leave (v := some (.int (1 : Int32))) (fun h => by rw [Bd.returns] at h; cases h)
        refine ⟨_, _, pre5 _ ?_, hrun, hended, _, _, rfl, ?_, ⟨_, rfl⟩, hW, hsame.mono (by decide) (by decide)⟩
        · show Steps p.tables e below (s₁.setTop (mkF m 10 #[.val (.int p1), .val (.int p2)] [(.int p1), (.int p2)])) _
          refine XS.icmpNo X0.here hx rfl (hb hby d24_10) rfl (tlt hc10_6).2.1 ?_
          refine XS.iconst X0.here hx rfl (hb hby d24_13) ?_
          refine XS.goto X0.here hx rfl (pc0 := 14) (pc' := 18) rfl (hb hby d24_14) (by decide) (by decide) ?_
          show Steps p.tables e below (s₁.setTop (mkF m 18 #[.val (.int p1), .val (.int p2)] [(.int (1 : Int32))])) _
          exact retN X0 hx (t := .boolean) Bd.returns (by simp) (hb hby d24_18) hr
        · show Q24 Z p1 p2 h0 n0 _ s₁.heap _
          rw [e0]
          exact ⟨by rw [sp24, if_neg hc1_2, if_neg hc5_4, if_pos hc10_6], N0, rfl⟩
      · obtain ⟨fs, hr, hrun, hended, hW, hsame⟩ := X0.leave (v := some (.int (0 : Int32))) (fun h => by rw [Bd.returns] at h; cases h)
        refine ⟨_, _, pre5 _ ?_, hrun, hended, _, _, rfl, ?_, ⟨_, rfl⟩, hW, hsame.mono (by decide) (by decide)⟩
        · show Steps p.tables e below (s₁.setTop (mkF m 10 #[.val (.int p1), .val (.int p2)] [(.int p1), (.int p2)])) _
          refine XS.icmpYes X0.here hx rfl (pc0 := 10) (pc' := 17) rfl (hb hby d24_10) rfl (flt hc10_6).2.1 (by decide) (by decide) ?_
          refine XS.iconst X0.here hx rfl (hb hby d24_17) ?_
          show Steps p.tables e below (s₁.setTop (mkF m 18 #[.val (.int p1), .val (.int p2)] [(.int (0 : Int32))])) _
          exact retN X0 hx (t := .boolean) Bd.returns (by simp) (hb hby d24_18) hr
        · show Q24 Z p1 p2 h0 n0 _ s₁.heap _
          rw [e0]
          exact ⟨by rw [sp24, if_neg hc1_2, if_neg hc5_4, if_neg hc10_6], N0, rfl⟩
theorem own_ou01 {p k ls o : Int32} (h : o = 0 ∨ o = 1) : own_ou p k ls o = 0 ∨ own_ou p k ls o = 1 := by
  unfold own_ou
  repeat' split
  all_goals first | exact h | exact Or.inr rfl
theorem own_one (a d : Int32) : own_ou d (own_kp a 0) (own_ls a (-1)) (own_ou a 0 (-1) 0) = 0 ↔ sp24 a d = 0 := by
  have e0 : (0 : Int32).toInt = 0 := rfl
  have e1 : (-1 : Int32).toInt = -1 := rfl
  have z : ¬ ((1 : Int32) = 0) := by decide
  simp only [own_ou, own_kp, own_ls, sp24, Int32.lt_iff_toInt_lt, e0, e1]
  repeat' split
  all_goals first | (simp_all; done) | (exfalso; omega) | (simp_all; omega)
theorem own_three (b c e : Int32) : own_ou e (own_kp c (own_kp b 0)) (own_ls c (own_ls b (-1))) (own_ou c (own_kp b 0) (own_ls b (-1)) (own_ou b 0 (-1) 0)) = 0 ↔ (sp24 b c = 0 ∧ sp24 b e = 0 ∧ sp24 c e = 0) := by
  have e0 : (0 : Int32).toInt = 0 := rfl
  have e1 : (-1 : Int32).toInt = -1 := rfl
  have z : ¬ ((1 : Int32) = 0) := by decide
  simp only [own_ou, own_kp, own_ls, sp24, Int32.lt_iff_toInt_lt, e0, e1]
  by_cases h1 : b.toInt < 0 <;> by_cases h2 : c.toInt < 0 <;> by_cases h3 : e.toInt < 0 <;> by_cases h4 : c.toInt < b.toInt <;> by_cases h5 : e.toInt < b.toInt <;> by_cases h6 : e.toInt < c.toInt <;> simp [h1, h2, h3, h4, h5, h6] <;> omega
theorem ef_0 (m : MethodId) (x0 : Int32) (x1 : Int32) (x2 : Int32) (x3 : Int32) (x4 : Int32) : entryFrame m #[(.int x0), (.int x1), (.int x2), (.int x3), (.int x4)] maxLocals = mkF m 0 #[.val (.int x0), .val (.int x1), .val (.int x2), .val (.int x3), .val (.int x4), .unset, .unset, .unset, .unset, .unset, .unset, .unset] [] := by first | (simp [entryFrame, mkF, argsToLocals, Value.category, maxLocals]; done) | rfl
def Q0 (Z : State) (p1 : Int32) (p2 : Int32) (p3 : Int32) (p4 : Int32) (p5 : Int32) (apr : Addr) (h0 : Heap) (n0 : Nat) (v : Option Value) (h : Heap) (L : List Loc) : Prop := v = some (.int (1 : Int32)) ∧ Fr n0 L
set_option maxRecDepth 65536 in
set_option maxHeartbeats 40000000 in
theorem rm0 (l : Launch) (Z : State) (a0 : Array Value) (hw : ∀ d ∈ tables_1, d.before a0 Z = true) (ws : List Jvm.Cond) (p1 : Int32) (p2 : Int32) (p3 : Int32) (p4 : Int32) (p5 : Int32) (apr : Addr) (h0 : Heap) (n0 : Nat) (Z0 : n0 ≤ h0.size) (O0 : Old Z n0 h0) (S_PRESENT : Sta Z Z.heap "java/util/HashSet" "PRESENT" "Ljava/lang/Object;" (.ref apr)) :
    MetFree l x (head1 (Jvm.Cond.code x code maxLocals ret :: ws) room_1) (fun a U => a = #[(.int p1), (.int p2), (.int p3), (.int p4), (.int p5)] ∧ Z.Warmed39 U.vm ∧ U.heap = h0) (fun _ _ _ _ _ => True) (fun _ U o U' => ∃ v L, o = .returned v ∧ Q0 Z p1 p2 p3 p4 p5 apr h0 n0 v U'.heap L ∧ FrameEnd U o U' L room_1.cells room_1.slots) := by
  refine MetFree.of_bodySF (plainFor_of_name pn_0) hisR ?_
  intro p e s m args below meth c s₁ Bd hml0 hP hK
  obtain ⟨rfl, hZ, hh⟩ := hP
  have hx := Bd.exec
  have hby := Bd.bytes
  have hml : c.maxLocals = 12 := hml0
  have hown : s.vm.findClass "com/example/kindgen/kindgen/core/document/RecordOrderMemberPinLaw" = some m.cls := findClass_of_methodNamed Bd.named
  have X0 : Stand p l e room_1 s m #[(.int p1), (.int p2), (.int p3), (.int p4), (.int p5)] below meth c s₁ [] 0 0 := Stand.of_body Bd
  have e0 : s₁.heap = h0 := by rw [← hh, Bd.state]; rfl
  have N0 := Fr.nil n0
  have pre0 : ∀ t, Steps p.tables e below (s₁.setTop (mkF m 0 #[.val (.int p1), .val (.int p2), .val (.int p3), .val (.int p4), .val (.int p5), .unset, .unset, .unset, .unset, .unset, .unset, .unset] [])) t → Steps p.tables e below (s₁.setTop (entryFrame m #[(.int p1), (.int p2), (.int p3), (.int p4), (.int p5)] maxLocals)) t := fun t k => castTop (ef_0 m p1 p2 p3 p4 p5) k
  obtain ⟨T1, h1, X1, e1, E1, A1, D1, -, st1⟩ := newO X0 hx hZ hown (hw _ (List.mem_of_getElem? (i := 0) rfl)) (hw _ (List.mem_of_getElem? (i := 1) rfl)) (hw _ (List.mem_of_getElem? (i := 2) rfl)) e0 (g := (mkF m 0 #[.val (.int p1), .val (.int p2), .val (.int p3), .val (.int p4), .val (.int p5), .unset, .unset, .unset, .unset, .unset, .unset, .unset] [])) rfl (hb hby at_0) (by decide) (by decide)
  obtain ⟨b1, g1⟩ : ∃ z, z = h0.size := ⟨_, rfl⟩
  rw [← g1] at A1 D1 st1
  have g_b1 : n0 ≤ b1 := Nat.le_trans Z0 (Nat.le_of_eq g1.symm)
  have Z1 : n0 ≤ h1.size := Nat.le_trans Z0 E1.1
  have O1 := O0.ext E1
  have F1_outOfOrder : Fld Z h1 b1 "com/example/kindgen/kindgen/core/document/RecordOrder" "outOfOrder" "Ljava/util/Set;" .null := D1 (Or.inr (hw _ (List.mem_of_getElem? (i := 48) rfl))) (ty := (.object "java/util/Set")) (by decide)
  have F1_held : Fld Z h1 b1 "com/example/kindgen/kindgen/core/document/RecordOrder" "held" "[I" .null := D1 (Or.inl (hw _ (List.mem_of_getElem? (i := 51) rfl))) (ty := (.array .int)) (by decide)
  have F1_levels : Fld Z h1 b1 "com/example/kindgen/kindgen/core/document/RecordOrder" "levels" "[Lcom/example/kindgen/kindgen/core/document/RecordOrder$Level;" .null := D1 (Or.inl (hw _ (List.mem_of_getElem? (i := 55) rfl))) (ty := (.array (.object "com/example/kindgen/kindgen/core/document/RecordOrder$Level"))) (by decide)
  have F1_longBytes : Fld Z h1 b1 "com/example/kindgen/kindgen/core/document/RecordOrder" "longBytes" "J" (.long (0 : Int64)) := D1 (Or.inr (hw _ (List.mem_of_getElem? (i := 57) rfl))) (ty := .long) (by decide)
  have F1_depth : Fld Z h1 b1 "com/example/kindgen/kindgen/core/document/RecordOrder" "depth" "I" (.int (0 : Int32)) := D1 (Or.inl (hw _ (List.mem_of_getElem? (i := 64) rfl))) (ty := .int) (by decide)
  have F1_started : Fld Z h1 b1 "com/example/kindgen/kindgen/core/document/RecordOrder" "started" "I" (.int (0 : Int32)) := D1 (Or.inl (hw _ (List.mem_of_getElem? (i := 73) rfl))) (ty := .int) (by decide)
  have F1_heldCount : Fld Z h1 b1 "com/example/kindgen/kindgen/core/document/RecordOrder" "heldCount" "I" (.int (0 : Int32)) := D1 (Or.inl (hw _ (List.mem_of_getElem? (i := 165) rfl))) (ty := .int) (by decide)
  obtain ⟨_, _, ⟨T2, L2, k2, n2⟩, -, X2, ⟨Lc2, hQ2, l2, y2, z2⟩, st2⟩ := X1.specialBack hx (y := (⟨"com/example/kindgen/kindgen/core/document/RecordOrder", "<init>", "(J)V"⟩ : MethodName)) rfl hown (mvT hZ (hw _ (List.mem_of_getElem? (i := 3) rfl))) (mvT hZ (hw _ (List.mem_of_getElem? (i := 4) rfl))) (mvT hZ (hw _ (List.mem_of_getElem? (i := 5) rfl))) (by decide) (backOf (W := 1) (rm1 l Z a0 hw [] b1  h1 n0 Z1 A1 F1_outOfOrder F1_held F1_levels F1_longBytes F1_depth F1_started F1_heldCount g_b1) hZ (hw _ (List.mem_of_getElem? (i := 5) rfl)) (hw _ (List.mem_of_getElem? (i := 2) rfl)) (by decide) (by decide)) (g := (mkF m 5 #[.val (.int p1), .val (.int p2), .val (.int p3), .val (.int p4), .val (.int p5), .unset, .unset, .unset, .unset, .unset, .unset, .unset] [(.long (0 : Int64)), (.ref b1), (.ref b1)])) rfl (by rw [hml]; rfl) (Steps.refl _) (a := b1) (argsL := [(.long (0 : Int64))]) (rest := [(.ref b1)]) (lenOf pd_0 rfl) rfl (by show 2 * 0 + _ ≤ _; exact Nat.le_of_eq rfl) (hb hby at_5) (fun _ _ => ⟨rfl, e1, (by decide : 1 + 4 ≤ _), (by decide : 7 + 33 ≤ _)⟩)
  dsimp only [Pt.U, Pt.locs, Pt.cells, Pt.slots] at X2 l2 y2 z2 st2 hQ2
  subst l2 y2 z2
  obtain ⟨b2_2, b2_3_2, b5_2, k5_2, b7_2, k7_2, rfl, N2q, K2q, t2_0, t2_1, t2_2, t2_3, t2_4, t2_5, t2_6, t2_7, t2_8, t2_9, t2_10, t2_11, t2_12, t2_13, t2_14, t2_15, t2_16, t2_17, t2_18, t2_19, t2_20, t2_21, t2_22, t2_23, t2_24, t2_25, t2_26, t2_27, t2_28, t2_29, t2_30, t2_31, t2_32⟩ := hQ2
  have N2 := Fr.app N0 N2q
  have nf2_b1_b2_2 : b1 ≠ b2_2 := Nat.ne_of_lt (Nat.lt_of_lt_of_le A1.lt t2_11)
  have nf2_b1_b2_3_2 : b1 ≠ b2_3_2 := Nat.ne_of_lt (Nat.lt_of_lt_of_le A1.lt t2_19)
  have nf2_b1_b5_2 : b1 ≠ b5_2 := Nat.ne_of_lt (Nat.lt_of_lt_of_le A1.lt t2_22)
  have nf2_b1_b7_2 : b1 ≠ b7_2 := Nat.ne_of_lt (Nat.lt_of_lt_of_le A1.lt t2_26)
  have Z2 : n0 ≤ T2.heap.size := Nat.le_trans Z1 K2q.1
  have O2 := O1.keep K2q (fun x hx => by simp only [List.mem_cons, List.not_mem_nil, or_false] at hx; rcases hx with rfl <;> first | exact g_b1)
  obtain ⟨cq3, kq3, q3a, q3b, q3c⟩ := isOf hZ rfl t2_0
  obtain ⟨_, _, ⟨T3, L3, k3, n3⟩, -, X3, ⟨Lc3, hQ3, l3, y3, z3⟩, st3⟩ := X2.virtualBack hx (y := (⟨"com/example/kindgen/kindgen/core/document/RecordOrder", "start", "(Lcom/example/kindgen/kindgen/runtime/RecordShape;J)V"⟩ : MethodName)) (z := (⟨"com/example/kindgen/kindgen/core/document/RecordOrder", "start", "(Lcom/example/kindgen/kindgen/runtime/RecordShape;J)V"⟩ : MethodName)) hown (mvT hZ (hw _ (List.mem_of_getElem? (i := 58) rfl))) (mvT hZ (hw _ (List.mem_of_getElem? (i := 59) rfl))) (notFace_of_selects (args := #[]) (mvT hZ (hw _ (List.mem_of_getElem? (i := 61) rfl)))) (mvT hZ (hw _ (List.mem_of_getElem? (i := 61) rfl))) (mvT hZ (hw _ (List.mem_of_getElem? (i := 60) rfl))) (by decide) (backOf (W := 0) (rm8s0 l Z a0 hw [] b1 b2_2 b5_2 b7_2 k7_2 T2.heap n0 Z2 t2_0 t2_1 t2_2 t2_3 t2_4 t2_5 t2_6 t2_7 t2_23 t2_24 nf2_b1_b7_2 g_b1 t2_25) hZ (hw _ (List.mem_of_getElem? (i := 62) rfl)) (hw _ (List.mem_of_getElem? (i := 2) rfl)) (by decide) (by decide)) q3a q3c (g := (mkF m 14 #[.val (.int p1), .val (.int p2), .val (.int p3), .val (.int p4), .val (.int p5), .val (.ref b1), .unset, .unset, .unset, .unset, .unset, .unset] [(.long (0 : Int64)), .null, (.ref b1)])) rfl (by rw [hml]; rfl) (Steps.refl _) (argsL := [.null, (.long (0 : Int64))]) (rest := []) (lenOf pd_2 rfl) rfl (by show 2 * 0 + _ ≤ _; exact Nat.le_of_eq rfl) (hb hby at_14) (fun _ _ => ⟨rfl, rfl, (by decide : 5 + 1 ≤ _), (by decide : 40 + 6 ≤ _)⟩)
  dsimp only [Pt.U, Pt.locs, Pt.cells, Pt.slots] at X3 l3 y3 z3 st3 hQ3
  subst l3 y3 z3
  obtain ⟨b9_3, rfl, N3q, K3q, t3_0, t3_1, t3_2, t3_3, t3_4, t3_5, t3_6, t3_7, t3_8, t3_9, t3_10, t3_11, t3_12, t3_13, t3_14, t3_15, t3_16, t3_17⟩ := hQ3
  have N3 := Fr.app N2 N3q
  have nf3_b1_b9_3 : b1 ≠ b9_3 := Nat.ne_of_lt (Nat.lt_of_lt_of_le t2_0.lt t3_17)
  have nf3_b2_2_b9_3 : b2_2 ≠ b9_3 := Nat.ne_of_lt (Nat.lt_of_lt_of_le t2_8.lt t3_17)
  have nf3_b2_3_2_b9_3 : b2_3_2 ≠ b9_3 := Nat.ne_of_lt (Nat.lt_of_lt_of_le t2_12.lt t3_17)
  have nf3_b5_2_b9_3 : b5_2 ≠ b9_3 := Nat.ne_of_lt (Nat.lt_of_lt_of_le t2_20.lt t3_17)
  have nf3_b7_2_b9_3 : b7_2 ≠ b9_3 := Nat.ne_of_lt (Nat.lt_of_lt_of_le t2_23.lt t3_17)
  have c3_E_b2_2 := t2_8.keep K3q
  have c3_F_b2_2_map := t2_9.keep K3q (by simp only [List.mem_cons, List.not_mem_nil, or_false, not_or]; exact ⟨(Ne.symm nf2_b1_b2_2), t2_30⟩)
  have c3_E_b2_3_2 := t2_12.keep K3q
  have c3_F_b2_3_2_table := t2_13.keep K3q (by simp only [List.mem_cons, List.not_mem_nil, or_false, not_or]; exact ⟨(Ne.symm nf2_b1_b2_3_2), t2_31⟩)
  have c3_F_b2_3_2_threshold := t2_14.keep K3q (by simp only [List.mem_cons, List.not_mem_nil, or_false, not_or]; exact ⟨(Ne.symm nf2_b1_b2_3_2), t2_31⟩)
  have c3_F_b2_3_2_modCount := t2_15.keep K3q (by simp only [List.mem_cons, List.not_mem_nil, or_false, not_or]; exact ⟨(Ne.symm nf2_b1_b2_3_2), t2_31⟩)
  have c3_F_b2_3_2_size := t2_16.keep K3q (by simp only [List.mem_cons, List.not_mem_nil, or_false, not_or]; exact ⟨(Ne.symm nf2_b1_b2_3_2), t2_31⟩)
  have c3_F_b2_3_2_loadFactor := t2_17.keep K3q (by simp only [List.mem_cons, List.not_mem_nil, or_false, not_or]; exact ⟨(Ne.symm nf2_b1_b2_3_2), t2_31⟩)
  have c3_V_b5_2 := t2_20.keep K3q (by simp only [List.mem_cons, List.not_mem_nil, or_false, not_or]; exact ⟨(Ne.symm nf2_b1_b5_2), t2_32⟩)
  have Z3 : n0 ≤ T3.heap.size := Nat.le_trans Z2 K3q.1
  have O3 := O2.keep K3q (fun x hx => by simp only [List.mem_cons, List.not_mem_nil, or_false] at hx; rcases hx with rfl | rfl <;> first | exact g_b1 | exact t2_25)
  obtain ⟨cq4, kq4, q4a, q4b, q4c⟩ := isOf hZ rfl t3_0
  obtain ⟨_, _, ⟨T4, L4, k4, n4⟩, -, X4, ⟨Lc4, hQ4, l4, y4, z4⟩, st4⟩ := X3.virtualBack hx (y := (⟨"com/example/kindgen/kindgen/core/document/RecordOrder", "member", "(I)V"⟩ : MethodName)) (z := (⟨"com/example/kindgen/kindgen/core/document/RecordOrder", "member", "(I)V"⟩ : MethodName)) hown (mvT hZ (hw _ (List.mem_of_getElem? (i := 86) rfl))) (mvT hZ (hw _ (List.mem_of_getElem? (i := 87) rfl))) (notFace_of_selects (args := #[]) (mvT hZ (hw _ (List.mem_of_getElem? (i := 89) rfl)))) (mvT hZ (hw _ (List.mem_of_getElem? (i := 89) rfl))) (mvT hZ (hw _ (List.mem_of_getElem? (i := 88) rfl))) (by decide) (backOf (W := 0) (rm10m0 l Z a0 hw [] b1 p1 b2_2 b5_2 b7_2 k7_2 b9_3 (1 : Int32) (0 : Int32) (0 : Int32) (-1 : Int32) (0 : Int32) (0 : Int32) (.null) T3.heap n0 Z3 (Or.inl rfl) t3_0 t3_1 t3_2 t3_3 t3_4 t3_5 t3_6 t3_7 t3_9 t3_10 t3_11 t3_12 t3_13 t3_14 t3_15 t3_8 t2_24 nf3_b1_b9_3 nf2_b1_b7_2 (Ne.symm nf3_b7_2_b9_3) t3_16) hZ (hw _ (List.mem_of_getElem? (i := 90) rfl)) (hw _ (List.mem_of_getElem? (i := 2) rfl)) (by decide) (by decide)) q4a q4c (g := (mkF m 20 #[.val (.int p1), .val (.int p2), .val (.int p3), .val (.int p4), .val (.int p5), .val (.ref b1), .unset, .unset, .unset, .unset, .unset, .unset] [(.int p1), (.ref b1)])) rfl (by rw [hml]; rfl) (Steps.refl _) (argsL := [(.int p1)]) (rest := []) (lenOf pd_3 rfl) rfl (by show 2 * 0 + _ ≤ _; exact Nat.le_of_eq rfl) (hb hby at_20) (fun _ _ => ⟨rfl, rfl, (by decide : 6 + 0 ≤ _), (by decide : 46 + 0 ≤ _)⟩)
  dsimp only [Pt.U, Pt.locs, Pt.cells, Pt.slots] at X4 l4 y4 z4 st4 hQ4
  subst l4 y4 z4
  obtain ⟨rfl, N4q, K4q, t4_0, t4_1, t4_2, t4_3, t4_4, t4_5, t4_6⟩ := hQ4
  have N4 := Fr.app N3 N4q
  have c4_E_b1 := t3_0.keep K4q
  have c4_E_b2_2 := c3_E_b2_2.keep K4q
  have c4_F_b2_2_map := c3_F_b2_2_map.keep K4q (by simp only [List.mem_cons, List.not_mem_nil, or_false, not_or]; exact nf3_b2_2_b9_3)
  have c4_E_b2_3_2 := c3_E_b2_3_2.keep K4q
  have c4_F_b2_3_2_table := c3_F_b2_3_2_table.keep K4q (by simp only [List.mem_cons, List.not_mem_nil, or_false, not_or]; exact nf3_b2_3_2_b9_3)
  have c4_F_b2_3_2_threshold := c3_F_b2_3_2_threshold.keep K4q (by simp only [List.mem_cons, List.not_mem_nil, or_false, not_or]; exact nf3_b2_3_2_b9_3)
  have c4_F_b2_3_2_modCount := c3_F_b2_3_2_modCount.keep K4q (by simp only [List.mem_cons, List.not_mem_nil, or_false, not_or]; exact nf3_b2_3_2_b9_3)
  have c4_F_b2_3_2_size := c3_F_b2_3_2_size.keep K4q (by simp only [List.mem_cons, List.not_mem_nil, or_false, not_or]; exact nf3_b2_3_2_b9_3)
  have c4_F_b2_3_2_loadFactor := c3_F_b2_3_2_loadFactor.keep K4q (by simp only [List.mem_cons, List.not_mem_nil, or_false, not_or]; exact nf3_b2_3_2_b9_3)
  have c4_V_b5_2 := c3_V_b5_2.keep K4q (by simp only [List.mem_cons, List.not_mem_nil, or_false, not_or]; exact nf3_b5_2_b9_3)
  have c4_F_b1_outOfOrder := t3_1.keep K4q (by simp only [List.mem_cons, List.not_mem_nil, or_false, not_or]; exact nf3_b1_b9_3)
  have c4_F_b1_held := t3_2.keep K4q (by simp only [List.mem_cons, List.not_mem_nil, or_false, not_or]; exact nf3_b1_b9_3)
  have c4_F_b1_levels := t3_3.keep K4q (by simp only [List.mem_cons, List.not_mem_nil, or_false, not_or]; exact nf3_b1_b9_3)
  have c4_F_b1_longBytes := t3_4.keep K4q (by simp only [List.mem_cons, List.not_mem_nil, or_false, not_or]; exact nf3_b1_b9_3)
  have c4_F_b1_depth := t3_5.keep K4q (by simp only [List.mem_cons, List.not_mem_nil, or_false, not_or]; exact nf3_b1_b9_3)
  have c4_F_b1_started := t3_6.keep K4q (by simp only [List.mem_cons, List.not_mem_nil, or_false, not_or]; exact nf3_b1_b9_3)
  have c4_F_b1_heldCount := t3_7.keep K4q (by simp only [List.mem_cons, List.not_mem_nil, or_false, not_or]; exact nf3_b1_b9_3)
  have c4_V_b7_2 := t3_8.keep K4q (by simp only [List.mem_cons, List.not_mem_nil, or_false, not_or]; exact nf3_b7_2_b9_3)
  have Z4 : n0 ≤ T4.heap.size := Nat.le_trans Z3 K4q.1
  have O4 := O3.keep K4q (fun x hx => by simp only [List.mem_cons, List.not_mem_nil, or_false] at hx; rcases hx with rfl <;> first | exact t3_16)
  obtain ⟨cq5, kq5, q5a, q5b, q5c⟩ := isOf hZ rfl c4_E_b1
  obtain ⟨_, _, ⟨T5, L5, k5, n5⟩, -, X5, ⟨Lc5, hQ5, l5, y5, z5⟩, st5⟩ := X4.virtualBack hx (y := (⟨"com/example/kindgen/kindgen/core/document/RecordOrder", "start", "(Lcom/example/kindgen/kindgen/runtime/RecordShape;J)V"⟩ : MethodName)) (z := (⟨"com/example/kindgen/kindgen/core/document/RecordOrder", "start", "(Lcom/example/kindgen/kindgen/runtime/RecordShape;J)V"⟩ : MethodName)) hown (mvT hZ (hw _ (List.mem_of_getElem? (i := 58) rfl))) (mvT hZ (hw _ (List.mem_of_getElem? (i := 59) rfl))) (notFace_of_selects (args := #[]) (mvT hZ (hw _ (List.mem_of_getElem? (i := 61) rfl)))) (mvT hZ (hw _ (List.mem_of_getElem? (i := 61) rfl))) (mvT hZ (hw _ (List.mem_of_getElem? (i := 60) rfl))) (by decide) (backOf (W := 0) (rm8s1 l Z a0 hw [] b1 b2_2 b5_2 b7_2 k7_2 (.ref b9_3) T4.heap n0 Z4 c4_E_b1 c4_F_b1_outOfOrder c4_F_b1_held c4_F_b1_levels c4_F_b1_longBytes c4_F_b1_depth c4_F_b1_started c4_F_b1_heldCount c4_V_b7_2 t2_24 nf2_b1_b7_2 g_b1 t2_25) hZ (hw _ (List.mem_of_getElem? (i := 62) rfl)) (hw _ (List.mem_of_getElem? (i := 2) rfl)) (by decide) (by decide)) q5a q5c (g := (mkF m 27 #[.val (.int p1), .val (.int p2), .val (.int p3), .val (.int p4), .val (.int p5), .val (.ref b1), .unset, .unset, .unset, .unset, .unset, .unset] [(.long (0 : Int64)), .null, (.ref b1)])) rfl (by rw [hml]; rfl) (Steps.refl _) (argsL := [.null, (.long (0 : Int64))]) (rest := []) (lenOf pd_2 rfl) rfl (by show 2 * 0 + _ ≤ _; exact Nat.le_of_eq rfl) (hb hby at_27) (fun _ _ => ⟨rfl, rfl, (by decide : 6 + 1 ≤ _), (by decide : 46 + 6 ≤ _)⟩)
  dsimp only [Pt.U, Pt.locs, Pt.cells, Pt.slots] at X5 l5 y5 z5 st5 hQ5
  subst l5 y5 z5
  obtain ⟨b9_5, rfl, N5q, K5q, t5_0, t5_1, t5_2, t5_3, t5_4, t5_5, t5_6, t5_7, t5_8, t5_9, t5_10, t5_11, t5_12, t5_13, t5_14, t5_15, t5_16, t5_17⟩ := hQ5
  have N5 := Fr.app N4 N5q
  have nf5_b1_b9_5 : b1 ≠ b9_5 := Nat.ne_of_lt (Nat.lt_of_lt_of_le c4_E_b1.lt t5_17)
  have nf5_b2_2_b9_5 : b2_2 ≠ b9_5 := Nat.ne_of_lt (Nat.lt_of_lt_of_le c4_E_b2_2.lt t5_17)
  have nf5_b2_3_2_b9_5 : b2_3_2 ≠ b9_5 := Nat.ne_of_lt (Nat.lt_of_lt_of_le c4_E_b2_3_2.lt t5_17)
  have nf5_b5_2_b9_5 : b5_2 ≠ b9_5 := Nat.ne_of_lt (Nat.lt_of_lt_of_le c4_V_b5_2.lt t5_17)
  have nf5_b7_2_b9_5 : b7_2 ≠ b9_5 := Nat.ne_of_lt (Nat.lt_of_lt_of_le c4_V_b7_2.lt t5_17)
  have nf5_b9_3_b9_5 : b9_3 ≠ b9_5 := Nat.ne_of_lt (Nat.lt_of_lt_of_le t4_0.lt t5_17)
  have c5_E_b2_2 := c4_E_b2_2.keep K5q
  have c5_F_b2_2_map := c4_F_b2_2_map.keep K5q (by simp only [List.mem_cons, List.not_mem_nil, or_false, not_or]; exact ⟨(Ne.symm nf2_b1_b2_2), t2_30⟩)
  have c5_E_b2_3_2 := c4_E_b2_3_2.keep K5q
  have c5_F_b2_3_2_table := c4_F_b2_3_2_table.keep K5q (by simp only [List.mem_cons, List.not_mem_nil, or_false, not_or]; exact ⟨(Ne.symm nf2_b1_b2_3_2), t2_31⟩)
  have c5_F_b2_3_2_threshold := c4_F_b2_3_2_threshold.keep K5q (by simp only [List.mem_cons, List.not_mem_nil, or_false, not_or]; exact ⟨(Ne.symm nf2_b1_b2_3_2), t2_31⟩)
  have c5_F_b2_3_2_modCount := c4_F_b2_3_2_modCount.keep K5q (by simp only [List.mem_cons, List.not_mem_nil, or_false, not_or]; exact ⟨(Ne.symm nf2_b1_b2_3_2), t2_31⟩)
  have c5_F_b2_3_2_size := c4_F_b2_3_2_size.keep K5q (by simp only [List.mem_cons, List.not_mem_nil, or_false, not_or]; exact ⟨(Ne.symm nf2_b1_b2_3_2), t2_31⟩)
  have c5_F_b2_3_2_loadFactor := c4_F_b2_3_2_loadFactor.keep K5q (by simp only [List.mem_cons, List.not_mem_nil, or_false, not_or]; exact ⟨(Ne.symm nf2_b1_b2_3_2), t2_31⟩)
  have c5_V_b5_2 := c4_V_b5_2.keep K5q (by simp only [List.mem_cons, List.not_mem_nil, or_false, not_or]; exact ⟨(Ne.symm nf2_b1_b5_2), t2_32⟩)
  have c5_E_b9_3 := t4_0.keep K5q
  have c5_F_b9_3_number := t4_1.keep K5q (by simp only [List.mem_cons, List.not_mem_nil, or_false, not_or]; exact ⟨(Ne.symm nf3_b1_b9_3), (Ne.symm nf3_b7_2_b9_3)⟩)
  have c5_F_b9_3_record := t4_2.keep K5q (by simp only [List.mem_cons, List.not_mem_nil, or_false, not_or]; exact ⟨(Ne.symm nf3_b1_b9_3), (Ne.symm nf3_b7_2_b9_3)⟩)
  have c5_F_b9_3_start := t4_3.keep K5q (by simp only [List.mem_cons, List.not_mem_nil, or_false, not_or]; exact ⟨(Ne.symm nf3_b1_b9_3), (Ne.symm nf3_b7_2_b9_3)⟩)
  have c5_F_b9_3_lastDeclared := t4_4.keep K5q (by simp only [List.mem_cons, List.not_mem_nil, or_false, not_or]; exact ⟨(Ne.symm nf3_b1_b9_3), (Ne.symm nf3_b7_2_b9_3)⟩)
  have c5_F_b9_3_kept := t4_5.keep K5q (by simp only [List.mem_cons, List.not_mem_nil, or_false, not_or]; exact ⟨(Ne.symm nf3_b1_b9_3), (Ne.symm nf3_b7_2_b9_3)⟩)
  have c5_F_b9_3_out := t4_6.keep K5q (by simp only [List.mem_cons, List.not_mem_nil, or_false, not_or]; exact ⟨(Ne.symm nf3_b1_b9_3), (Ne.symm nf3_b7_2_b9_3)⟩)
  have Z5 : n0 ≤ T5.heap.size := Nat.le_trans Z4 K5q.1
  have O5 := O4.keep K5q (fun x hx => by simp only [List.mem_cons, List.not_mem_nil, or_false] at hx; rcases hx with rfl | rfl <;> first | exact g_b1 | exact t2_25)
  obtain ⟨cq6, kq6, q6a, q6b, q6c⟩ := isOf hZ rfl t5_0
  obtain ⟨_, _, ⟨T6, L6, k6, n6⟩, -, X6, ⟨Lc6, hQ6, l6, y6, z6⟩, st6⟩ := X5.virtualBack hx (y := (⟨"com/example/kindgen/kindgen/core/document/RecordOrder", "member", "(I)V"⟩ : MethodName)) (z := (⟨"com/example/kindgen/kindgen/core/document/RecordOrder", "member", "(I)V"⟩ : MethodName)) hown (mvT hZ (hw _ (List.mem_of_getElem? (i := 86) rfl))) (mvT hZ (hw _ (List.mem_of_getElem? (i := 87) rfl))) (notFace_of_selects (args := #[]) (mvT hZ (hw _ (List.mem_of_getElem? (i := 89) rfl)))) (mvT hZ (hw _ (List.mem_of_getElem? (i := 89) rfl))) (mvT hZ (hw _ (List.mem_of_getElem? (i := 88) rfl))) (by decide) (backOf (W := 0) (rm10m1 l Z a0 hw [] b1 p2 b2_2 b5_2 b7_2 k7_2 b9_5 (2 : Int32) (0 : Int32) (1 : Int32) (-1 : Int32) (0 : Int32) (0 : Int32) (.ref b9_3) T5.heap n0 Z5 (Or.inl rfl) t5_0 t5_1 t5_2 t5_3 t5_4 t5_5 t5_6 t5_7 t5_9 t5_10 t5_11 t5_12 t5_13 t5_14 t5_15 t5_8 t2_24 nf5_b1_b9_5 nf2_b1_b7_2 (Ne.symm nf5_b7_2_b9_5) t5_16) hZ (hw _ (List.mem_of_getElem? (i := 90) rfl)) (hw _ (List.mem_of_getElem? (i := 2) rfl)) (by decide) (by decide)) q6a q6c (g := (mkF m 33 #[.val (.int p1), .val (.int p2), .val (.int p3), .val (.int p4), .val (.int p5), .val (.ref b1), .unset, .unset, .unset, .unset, .unset, .unset] [(.int p2), (.ref b1)])) rfl (by rw [hml]; rfl) (Steps.refl _) (argsL := [(.int p2)]) (rest := []) (lenOf pd_3 rfl) rfl (by show 2 * 0 + _ ≤ _; exact Nat.le_of_eq rfl) (hb hby at_33) (fun _ _ => ⟨rfl, rfl, (by decide : 7 + 0 ≤ _), (by decide : 52 + 0 ≤ _)⟩)
  dsimp only [Pt.U, Pt.locs, Pt.cells, Pt.slots] at X6 l6 y6 z6 st6 hQ6
  subst l6 y6 z6
  obtain ⟨rfl, N6q, K6q, t6_0, t6_1, t6_2, t6_3, t6_4, t6_5, t6_6⟩ := hQ6
  have N6 := Fr.app N5 N6q
  have c6_E_b1 := t5_0.keep K6q
  have c6_E_b2_2 := c5_E_b2_2.keep K6q
  have c6_F_b2_2_map := c5_F_b2_2_map.keep K6q (by simp only [List.mem_cons, List.not_mem_nil, or_false, not_or]; exact nf5_b2_2_b9_5)
  have c6_E_b2_3_2 := c5_E_b2_3_2.keep K6q
  have c6_F_b2_3_2_table := c5_F_b2_3_2_table.keep K6q (by simp only [List.mem_cons, List.not_mem_nil, or_false, not_or]; exact nf5_b2_3_2_b9_5)
  have c6_F_b2_3_2_threshold := c5_F_b2_3_2_threshold.keep K6q (by simp only [List.mem_cons, List.not_mem_nil, or_false, not_or]; exact nf5_b2_3_2_b9_5)
  have c6_F_b2_3_2_modCount := c5_F_b2_3_2_modCount.keep K6q (by simp only [List.mem_cons, List.not_mem_nil, or_false, not_or]; exact nf5_b2_3_2_b9_5)
  have c6_F_b2_3_2_size := c5_F_b2_3_2_size.keep K6q (by simp only [List.mem_cons, List.not_mem_nil, or_false, not_or]; exact nf5_b2_3_2_b9_5)
  have c6_F_b2_3_2_loadFactor := c5_F_b2_3_2_loadFactor.keep K6q (by simp only [List.mem_cons, List.not_mem_nil, or_false, not_or]; exact nf5_b2_3_2_b9_5)
  have c6_V_b5_2 := c5_V_b5_2.keep K6q (by simp only [List.mem_cons, List.not_mem_nil, or_false, not_or]; exact nf5_b5_2_b9_5)
  have c6_E_b9_3 := c5_E_b9_3.keep K6q
  have c6_F_b9_3_number := c5_F_b9_3_number.keep K6q (by simp only [List.mem_cons, List.not_mem_nil, or_false, not_or]; exact nf5_b9_3_b9_5)
  have c6_F_b9_3_record := c5_F_b9_3_record.keep K6q (by simp only [List.mem_cons, List.not_mem_nil, or_false, not_or]; exact nf5_b9_3_b9_5)
  have c6_F_b9_3_start := c5_F_b9_3_start.keep K6q (by simp only [List.mem_cons, List.not_mem_nil, or_false, not_or]; exact nf5_b9_3_b9_5)
  have c6_F_b9_3_lastDeclared := c5_F_b9_3_lastDeclared.keep K6q (by simp only [List.mem_cons, List.not_mem_nil, or_false, not_or]; exact nf5_b9_3_b9_5)
  have c6_F_b9_3_kept := c5_F_b9_3_kept.keep K6q (by simp only [List.mem_cons, List.not_mem_nil, or_false, not_or]; exact nf5_b9_3_b9_5)
  have c6_F_b9_3_out := c5_F_b9_3_out.keep K6q (by simp only [List.mem_cons, List.not_mem_nil, or_false, not_or]; exact nf5_b9_3_b9_5)
  have c6_F_b1_outOfOrder := t5_1.keep K6q (by simp only [List.mem_cons, List.not_mem_nil, or_false, not_or]; exact nf5_b1_b9_5)
  have c6_F_b1_held := t5_2.keep K6q (by simp only [List.mem_cons, List.not_mem_nil, or_false, not_or]; exact nf5_b1_b9_5)
  have c6_F_b1_levels := t5_3.keep K6q (by simp only [List.mem_cons, List.not_mem_nil, or_false, not_or]; exact nf5_b1_b9_5)
  have c6_F_b1_longBytes := t5_4.keep K6q (by simp only [List.mem_cons, List.not_mem_nil, or_false, not_or]; exact nf5_b1_b9_5)
  have c6_F_b1_depth := t5_5.keep K6q (by simp only [List.mem_cons, List.not_mem_nil, or_false, not_or]; exact nf5_b1_b9_5)
  have c6_F_b1_started := t5_6.keep K6q (by simp only [List.mem_cons, List.not_mem_nil, or_false, not_or]; exact nf5_b1_b9_5)
  have c6_F_b1_heldCount := t5_7.keep K6q (by simp only [List.mem_cons, List.not_mem_nil, or_false, not_or]; exact nf5_b1_b9_5)
  have c6_V_b7_2 := t5_8.keep K6q (by simp only [List.mem_cons, List.not_mem_nil, or_false, not_or]; exact nf5_b7_2_b9_5)
  have Z6 : n0 ≤ T6.heap.size := Nat.le_trans Z5 K6q.1
  have O6 := O5.keep K6q (fun x hx => by simp only [List.mem_cons, List.not_mem_nil, or_false] at hx; rcases hx with rfl <;> first | exact t5_16)
  obtain ⟨cq7, kq7, q7a, q7b, q7c⟩ := isOf hZ rfl c6_E_b1
  obtain ⟨_, _, ⟨T7, L7, k7, n7⟩, -, X7, ⟨Lc7, hQ7, l7, y7, z7⟩, st7⟩ := X6.virtualBack hx (y := (⟨"com/example/kindgen/kindgen/core/document/RecordOrder", "member", "(I)V"⟩ : MethodName)) (z := (⟨"com/example/kindgen/kindgen/core/document/RecordOrder", "member", "(I)V"⟩ : MethodName)) hown (mvT hZ (hw _ (List.mem_of_getElem? (i := 86) rfl))) (mvT hZ (hw _ (List.mem_of_getElem? (i := 87) rfl))) (notFace_of_selects (args := #[]) (mvT hZ (hw _ (List.mem_of_getElem? (i := 89) rfl)))) (mvT hZ (hw _ (List.mem_of_getElem? (i := 89) rfl))) (mvT hZ (hw _ (List.mem_of_getElem? (i := 88) rfl))) (by decide) (backOf (W := 0) (rm10m1 l Z a0 hw [] b1 p3 b2_2 b5_2 b7_2 k7_2 b9_5 (2 : Int32) (0 : Int32) (1 : Int32) (own_ls p2 (-1 : Int32)) (own_kp p2 (0 : Int32)) (own_ou p2 (0 : Int32) (-1 : Int32) (0 : Int32)) (.ref b9_3) T6.heap n0 Z6 (own_ou01 (Or.inl rfl)) c6_E_b1 c6_F_b1_outOfOrder c6_F_b1_held c6_F_b1_levels c6_F_b1_longBytes c6_F_b1_depth c6_F_b1_started c6_F_b1_heldCount t6_0 t6_1 t6_2 t6_3 t6_4 t6_5 t6_6 c6_V_b7_2 t2_24 nf5_b1_b9_5 nf2_b1_b7_2 (Ne.symm nf5_b7_2_b9_5) t5_16) hZ (hw _ (List.mem_of_getElem? (i := 90) rfl)) (hw _ (List.mem_of_getElem? (i := 2) rfl)) (by decide) (by decide)) q7a q7c (g := (mkF m 39 #[.val (.int p1), .val (.int p2), .val (.int p3), .val (.int p4), .val (.int p5), .val (.ref b1), .unset, .unset, .unset, .unset, .unset, .unset] [(.int p3), (.ref b1)])) rfl (by rw [hml]; rfl) (Steps.refl _) (argsL := [(.int p3)]) (rest := []) (lenOf pd_3 rfl) rfl (by show 2 * 0 + _ ≤ _; exact Nat.le_of_eq rfl) (hb hby at_39) (fun _ _ => ⟨rfl, rfl, (by decide : 7 + 0 ≤ _), (by decide : 52 + 0 ≤ _)⟩)
  dsimp only [Pt.U, Pt.locs, Pt.cells, Pt.slots] at X7 l7 y7 z7 st7 hQ7
  subst l7 y7 z7
  obtain ⟨rfl, N7q, K7q, t7_0, t7_1, t7_2, t7_3, t7_4, t7_5, t7_6⟩ := hQ7
  have N7 := Fr.app N6 N7q
  have c7_E_b1 := c6_E_b1.keep K7q
  have c7_E_b2_2 := c6_E_b2_2.keep K7q
  have c7_F_b2_2_map := c6_F_b2_2_map.keep K7q (by simp only [List.mem_cons, List.not_mem_nil, or_false, not_or]; exact nf5_b2_2_b9_5)
  have c7_E_b2_3_2 := c6_E_b2_3_2.keep K7q
  have c7_F_b2_3_2_table := c6_F_b2_3_2_table.keep K7q (by simp only [List.mem_cons, List.not_mem_nil, or_false, not_or]; exact nf5_b2_3_2_b9_5)
  have c7_F_b2_3_2_threshold := c6_F_b2_3_2_threshold.keep K7q (by simp only [List.mem_cons, List.not_mem_nil, or_false, not_or]; exact nf5_b2_3_2_b9_5)
  have c7_F_b2_3_2_modCount := c6_F_b2_3_2_modCount.keep K7q (by simp only [List.mem_cons, List.not_mem_nil, or_false, not_or]; exact nf5_b2_3_2_b9_5)
  have c7_F_b2_3_2_size := c6_F_b2_3_2_size.keep K7q (by simp only [List.mem_cons, List.not_mem_nil, or_false, not_or]; exact nf5_b2_3_2_b9_5)
  have c7_F_b2_3_2_loadFactor := c6_F_b2_3_2_loadFactor.keep K7q (by simp only [List.mem_cons, List.not_mem_nil, or_false, not_or]; exact nf5_b2_3_2_b9_5)
  have c7_V_b5_2 := c6_V_b5_2.keep K7q (by simp only [List.mem_cons, List.not_mem_nil, or_false, not_or]; exact nf5_b5_2_b9_5)
  have c7_E_b9_3 := c6_E_b9_3.keep K7q
  have c7_F_b9_3_number := c6_F_b9_3_number.keep K7q (by simp only [List.mem_cons, List.not_mem_nil, or_false, not_or]; exact nf5_b9_3_b9_5)
  have c7_F_b9_3_record := c6_F_b9_3_record.keep K7q (by simp only [List.mem_cons, List.not_mem_nil, or_false, not_or]; exact nf5_b9_3_b9_5)
  have c7_F_b9_3_start := c6_F_b9_3_start.keep K7q (by simp only [List.mem_cons, List.not_mem_nil, or_false, not_or]; exact nf5_b9_3_b9_5)
  have c7_F_b9_3_lastDeclared := c6_F_b9_3_lastDeclared.keep K7q (by simp only [List.mem_cons, List.not_mem_nil, or_false, not_or]; exact nf5_b9_3_b9_5)
  have c7_F_b9_3_kept := c6_F_b9_3_kept.keep K7q (by simp only [List.mem_cons, List.not_mem_nil, or_false, not_or]; exact nf5_b9_3_b9_5)
  have c7_F_b9_3_out := c6_F_b9_3_out.keep K7q (by simp only [List.mem_cons, List.not_mem_nil, or_false, not_or]; exact nf5_b9_3_b9_5)
  have c7_F_b1_outOfOrder := c6_F_b1_outOfOrder.keep K7q (by simp only [List.mem_cons, List.not_mem_nil, or_false, not_or]; exact nf5_b1_b9_5)
  have c7_F_b1_held := c6_F_b1_held.keep K7q (by simp only [List.mem_cons, List.not_mem_nil, or_false, not_or]; exact nf5_b1_b9_5)
  have c7_F_b1_levels := c6_F_b1_levels.keep K7q (by simp only [List.mem_cons, List.not_mem_nil, or_false, not_or]; exact nf5_b1_b9_5)
  have c7_F_b1_longBytes := c6_F_b1_longBytes.keep K7q (by simp only [List.mem_cons, List.not_mem_nil, or_false, not_or]; exact nf5_b1_b9_5)
  have c7_F_b1_depth := c6_F_b1_depth.keep K7q (by simp only [List.mem_cons, List.not_mem_nil, or_false, not_or]; exact nf5_b1_b9_5)
  have c7_F_b1_started := c6_F_b1_started.keep K7q (by simp only [List.mem_cons, List.not_mem_nil, or_false, not_or]; exact nf5_b1_b9_5)
  have c7_F_b1_heldCount := c6_F_b1_heldCount.keep K7q (by simp only [List.mem_cons, List.not_mem_nil, or_false, not_or]; exact nf5_b1_b9_5)
  have c7_V_b7_2 := c6_V_b7_2.keep K7q (by simp only [List.mem_cons, List.not_mem_nil, or_false, not_or]; exact nf5_b7_2_b9_5)
  have Z7 : n0 ≤ T7.heap.size := Nat.le_trans Z6 K7q.1
  have O7 := O6.keep K7q (fun x hx => by simp only [List.mem_cons, List.not_mem_nil, or_false] at hx; rcases hx with rfl <;> first | exact t5_16)
  obtain ⟨cq8, kq8, q8a, q8b, q8c⟩ := isOf hZ rfl c7_E_b1
  obtain ⟨_, _, ⟨T8, L8, k8, n8⟩, -, X8, ⟨Lc8, hQ8, l8, y8, z8⟩, st8⟩ := X7.virtualBack hx (y := (⟨"com/example/kindgen/kindgen/core/document/RecordOrder", "member", "(I)V"⟩ : MethodName)) (z := (⟨"com/example/kindgen/kindgen/core/document/RecordOrder", "member", "(I)V"⟩ : MethodName)) hown (mvT hZ (hw _ (List.mem_of_getElem? (i := 86) rfl))) (mvT hZ (hw _ (List.mem_of_getElem? (i := 87) rfl))) (notFace_of_selects (args := #[]) (mvT hZ (hw _ (List.mem_of_getElem? (i := 89) rfl)))) (mvT hZ (hw _ (List.mem_of_getElem? (i := 89) rfl))) (mvT hZ (hw _ (List.mem_of_getElem? (i := 88) rfl))) (by decide) (backOf (W := 0) (rm10m1 l Z a0 hw [] b1 p4 b2_2 b5_2 b7_2 k7_2 b9_5 (2 : Int32) (0 : Int32) (1 : Int32) (own_ls p3 (own_ls p2 (-1 : Int32))) (own_kp p3 (own_kp p2 (0 : Int32))) (own_ou p3 (own_kp p2 (0 : Int32)) (own_ls p2 (-1 : Int32)) (own_ou p2 (0 : Int32) (-1 : Int32) (0 : Int32))) (.ref b9_3) T7.heap n0 Z7 (own_ou01 (own_ou01 (Or.inl rfl))) c7_E_b1 c7_F_b1_outOfOrder c7_F_b1_held c7_F_b1_levels c7_F_b1_longBytes c7_F_b1_depth c7_F_b1_started c7_F_b1_heldCount t7_0 t7_1 t7_2 t7_3 t7_4 t7_5 t7_6 c7_V_b7_2 t2_24 nf5_b1_b9_5 nf2_b1_b7_2 (Ne.symm nf5_b7_2_b9_5) t5_16) hZ (hw _ (List.mem_of_getElem? (i := 90) rfl)) (hw _ (List.mem_of_getElem? (i := 2) rfl)) (by decide) (by decide)) q8a q8c (g := (mkF m 45 #[.val (.int p1), .val (.int p2), .val (.int p3), .val (.int p4), .val (.int p5), .val (.ref b1), .unset, .unset, .unset, .unset, .unset, .unset] [(.int p4), (.ref b1)])) rfl (by rw [hml]; rfl) (Steps.refl _) (argsL := [(.int p4)]) (rest := []) (lenOf pd_3 rfl) rfl (by show 2 * 0 + _ ≤ _; exact Nat.le_of_eq rfl) (hb hby at_45) (fun _ _ => ⟨rfl, rfl, (by decide : 7 + 0 ≤ _), (by decide : 52 + 0 ≤ _)⟩)
  dsimp only [Pt.U, Pt.locs, Pt.cells, Pt.slots] at X8 l8 y8 z8 st8 hQ8
  subst l8 y8 z8
  obtain ⟨rfl, N8q, K8q, t8_0, t8_1, t8_2, t8_3, t8_4, t8_5, t8_6⟩ := hQ8
  have N8 := Fr.app N7 N8q
  have c8_E_b1 := c7_E_b1.keep K8q
  have c8_E_b2_2 := c7_E_b2_2.keep K8q
  have c8_F_b2_2_map := c7_F_b2_2_map.keep K8q (by simp only [List.mem_cons, List.not_mem_nil, or_false, not_or]; exact nf5_b2_2_b9_5)
  have c8_E_b2_3_2 := c7_E_b2_3_2.keep K8q
  have c8_F_b2_3_2_table := c7_F_b2_3_2_table.keep K8q (by simp only [List.mem_cons, List.not_mem_nil, or_false, not_or]; exact nf5_b2_3_2_b9_5)
  have c8_F_b2_3_2_threshold := c7_F_b2_3_2_threshold.keep K8q (by simp only [List.mem_cons, List.not_mem_nil, or_false, not_or]; exact nf5_b2_3_2_b9_5)
  have c8_F_b2_3_2_modCount := c7_F_b2_3_2_modCount.keep K8q (by simp only [List.mem_cons, List.not_mem_nil, or_false, not_or]; exact nf5_b2_3_2_b9_5)
  have c8_F_b2_3_2_size := c7_F_b2_3_2_size.keep K8q (by simp only [List.mem_cons, List.not_mem_nil, or_false, not_or]; exact nf5_b2_3_2_b9_5)
  have c8_F_b2_3_2_loadFactor := c7_F_b2_3_2_loadFactor.keep K8q (by simp only [List.mem_cons, List.not_mem_nil, or_false, not_or]; exact nf5_b2_3_2_b9_5)
  have c8_V_b5_2 := c7_V_b5_2.keep K8q (by simp only [List.mem_cons, List.not_mem_nil, or_false, not_or]; exact nf5_b5_2_b9_5)
  have c8_E_b9_3 := c7_E_b9_3.keep K8q
  have c8_F_b9_3_number := c7_F_b9_3_number.keep K8q (by simp only [List.mem_cons, List.not_mem_nil, or_false, not_or]; exact nf5_b9_3_b9_5)
  have c8_F_b9_3_record := c7_F_b9_3_record.keep K8q (by simp only [List.mem_cons, List.not_mem_nil, or_false, not_or]; exact nf5_b9_3_b9_5)
  have c8_F_b9_3_start := c7_F_b9_3_start.keep K8q (by simp only [List.mem_cons, List.not_mem_nil, or_false, not_or]; exact nf5_b9_3_b9_5)
  have c8_F_b9_3_lastDeclared := c7_F_b9_3_lastDeclared.keep K8q (by simp only [List.mem_cons, List.not_mem_nil, or_false, not_or]; exact nf5_b9_3_b9_5)
  have c8_F_b9_3_kept := c7_F_b9_3_kept.keep K8q (by simp only [List.mem_cons, List.not_mem_nil, or_false, not_or]; exact nf5_b9_3_b9_5)
  have c8_F_b9_3_out := c7_F_b9_3_out.keep K8q (by simp only [List.mem_cons, List.not_mem_nil, or_false, not_or]; exact nf5_b9_3_b9_5)
  have c8_F_b1_outOfOrder := c7_F_b1_outOfOrder.keep K8q (by simp only [List.mem_cons, List.not_mem_nil, or_false, not_or]; exact nf5_b1_b9_5)
  have c8_F_b1_held := c7_F_b1_held.keep K8q (by simp only [List.mem_cons, List.not_mem_nil, or_false, not_or]; exact nf5_b1_b9_5)
  have c8_F_b1_levels := c7_F_b1_levels.keep K8q (by simp only [List.mem_cons, List.not_mem_nil, or_false, not_or]; exact nf5_b1_b9_5)
  have c8_F_b1_longBytes := c7_F_b1_longBytes.keep K8q (by simp only [List.mem_cons, List.not_mem_nil, or_false, not_or]; exact nf5_b1_b9_5)
  have c8_F_b1_depth := c7_F_b1_depth.keep K8q (by simp only [List.mem_cons, List.not_mem_nil, or_false, not_or]; exact nf5_b1_b9_5)
  have c8_F_b1_started := c7_F_b1_started.keep K8q (by simp only [List.mem_cons, List.not_mem_nil, or_false, not_or]; exact nf5_b1_b9_5)
  have c8_F_b1_heldCount := c7_F_b1_heldCount.keep K8q (by simp only [List.mem_cons, List.not_mem_nil, or_false, not_or]; exact nf5_b1_b9_5)
  have c8_V_b7_2 := c7_V_b7_2.keep K8q (by simp only [List.mem_cons, List.not_mem_nil, or_false, not_or]; exact nf5_b7_2_b9_5)
  have Z8 : n0 ≤ T8.heap.size := Nat.le_trans Z7 K8q.1
  have O8 := O7.keep K8q (fun x hx => by simp only [List.mem_cons, List.not_mem_nil, or_false] at hx; rcases hx with rfl <;> first | exact t5_16)
  have pre9 : ∀ t, Steps p.tables e below (T8.setTop (mkF m 51 #[.val (.int p1), .val (.int p2), .val (.int p3), .val (.int p4), .val (.int p5), .val (.ref b1), .unset, .unset, .unset, .unset, .unset, .unset] [(.long (0 : Int64)), (.ref b1)])) t → Steps p.tables e below (s₁.setTop (entryFrame m #[(.int p1), (.int p2), (.int p3), (.int p4), (.int p5)] maxLocals)) t := by
    intro t k
    refine pre0 t ?_
    show Steps p.tables e below (s₁.setTop (mkF m 0 #[.val (.int p1), .val (.int p2), .val (.int p3), .val (.int p4), .val (.int p5), .unset, .unset, .unset, .unset, .unset, .unset, .unset] [])) _
    refine st1 _ ?_
    show Steps p.tables e below (T1.setTop (mkF m 3 #[.val (.int p1), .val (.int p2), .val (.int p3), .val (.int p4), .val (.int p5), .unset, .unset, .unset, .unset, .unset, .unset, .unset] [(.ref b1)])) _
    refine XS.dup X1.here hx rfl (hb hby at_3) rfl rfl ?_
    refine XS.lconst X1.here hx rfl (hb hby at_4) ?_
    show Steps p.tables e below (T1.setTop (mkF m 5 #[.val (.int p1), .val (.int p2), .val (.int p3), .val (.int p4), .val (.int p5), .unset, .unset, .unset, .unset, .unset, .unset, .unset] [(.long (0 : Int64)), (.ref b1), (.ref b1)])) _
    refine st2.trans ?_
    show Steps p.tables e below (T2.setTop (mkF m 8 #[.val (.int p1), .val (.int p2), .val (.int p3), .val (.int p4), .val (.int p5), .unset, .unset, .unset, .unset, .unset, .unset, .unset] [(.ref b1)])) _
    refine XS.astore X2.here hx rfl (hb hby at_8) rfl rfl (l' := #[.val (.int p1), .val (.int p2), .val (.int p3), .val (.int p4), .val (.int p5), .val (.ref b1), .unset, .unset, .unset, .unset, .unset, .unset]) rfl ?_
    refine XS.aload X2.here hx rfl (hb hby at_10) rfl rfl ?_
    show Steps p.tables e below (T2.setTop (mkF m 12 #[.val (.int p1), .val (.int p2), .val (.int p3), .val (.int p4), .val (.int p5), .val (.ref b1), .unset, .unset, .unset, .unset, .unset, .unset] [(.ref b1)])) _
    refine XS.aconstNull X2.here hx rfl (hb hby at_12) ?_
    refine XS.lconst X2.here hx rfl (hb hby at_13) ?_
    show Steps p.tables e below (T2.setTop (mkF m 14 #[.val (.int p1), .val (.int p2), .val (.int p3), .val (.int p4), .val (.int p5), .val (.ref b1), .unset, .unset, .unset, .unset, .unset, .unset] [(.long (0 : Int64)), .null, (.ref b1)])) _
    refine st3.trans ?_
    refine XS.aload X3.here hx rfl (hb hby at_17) rfl rfl ?_
    refine XS.iloadN X3.here hx rfl (hb hby at_19) rfl ?_
    show Steps p.tables e below (T3.setTop (mkF m 20 #[.val (.int p1), .val (.int p2), .val (.int p3), .val (.int p4), .val (.int p5), .val (.ref b1), .unset, .unset, .unset, .unset, .unset, .unset] [(.int p1), (.ref b1)])) _
    refine st4.trans ?_
    refine XS.aload X4.here hx rfl (hb hby at_23) rfl rfl ?_
    show Steps p.tables e below (T4.setTop (mkF m 25 #[.val (.int p1), .val (.int p2), .val (.int p3), .val (.int p4), .val (.int p5), .val (.ref b1), .unset, .unset, .unset, .unset, .unset, .unset] [(.ref b1)])) _
    refine XS.aconstNull X4.here hx rfl (hb hby at_25) ?_
    refine XS.lconst X4.here hx rfl (hb hby at_26) ?_
    show Steps p.tables e below (T4.setTop (mkF m 27 #[.val (.int p1), .val (.int p2), .val (.int p3), .val (.int p4), .val (.int p5), .val (.ref b1), .unset, .unset, .unset, .unset, .unset, .unset] [(.long (0 : Int64)), .null, (.ref b1)])) _
    refine st5.trans ?_
    refine XS.aload X5.here hx rfl (hb hby at_30) rfl rfl ?_
    refine XS.iloadN X5.here hx rfl (hb hby at_32) rfl ?_
    show Steps p.tables e below (T5.setTop (mkF m 33 #[.val (.int p1), .val (.int p2), .val (.int p3), .val (.int p4), .val (.int p5), .val (.ref b1), .unset, .unset, .unset, .unset, .unset, .unset] [(.int p2), (.ref b1)])) _
    refine st6.trans ?_
    refine XS.aload X6.here hx rfl (hb hby at_36) rfl rfl ?_
    refine XS.iloadN X6.here hx rfl (hb hby at_38) rfl ?_
    show Steps p.tables e below (T6.setTop (mkF m 39 #[.val (.int p1), .val (.int p2), .val (.int p3), .val (.int p4), .val (.int p5), .val (.ref b1), .unset, .unset, .unset, .unset, .unset, .unset] [(.int p3), (.ref b1)])) _
    refine st7.trans ?_
    refine XS.aload X7.here hx rfl (hb hby at_42) rfl rfl ?_
    refine XS.iloadN X7.here hx rfl (hb hby at_44) rfl ?_
    show Steps p.tables e below (T7.setTop (mkF m 45 #[.val (.int p1), .val (.int p2), .val (.int p3), .val (.int p4), .val (.int p5), .val (.ref b1), .unset, .unset, .unset, .unset, .unset, .unset] [(.int p4), (.ref b1)])) _
    refine st8.trans ?_
    refine XS.aload X8.here hx rfl (hb hby at_48) rfl rfl ?_
    refine XS.lconst X8.here hx rfl (hb hby at_50) ?_
    exact k
  by_cases hO1 : (own_ou p4 (own_kp p3 (own_kp p2 (0 : Int32))) (own_ls p3 (own_ls p2 (-1 : Int32))) (own_ou p3 (own_kp p2 (0 : Int32)) (own_ls p2 (-1 : Int32)) (own_ou p2 (0 : Int32) (-1 : Int32) (0 : Int32)))) = (0 : Int32)
  · have q3 := (own_three p2 p3 p4).mp hO1
    obtain ⟨cq10, kq10, q10a, q10b, q10c⟩ := isOf hZ rfl c8_E_b1
    obtain ⟨_, _, ⟨T10, L10, k10, n10⟩, -, X10, ⟨Lc10, hQ10, l10, y10, z10⟩, st10⟩ := X8.virtualBack hx (y := (⟨"com/example/kindgen/kindgen/core/document/RecordOrder", "end", "(J)V"⟩ : MethodName)) (z := (⟨"com/example/kindgen/kindgen/core/document/RecordOrder", "end", "(J)V"⟩ : MethodName)) hown (mvT hZ (hw _ (List.mem_of_getElem? (i := 91) rfl))) (mvT hZ (hw _ (List.mem_of_getElem? (i := 92) rfl))) (notFace_of_selects (args := #[]) (mvT hZ (hw _ (List.mem_of_getElem? (i := 94) rfl)))) (mvT hZ (hw _ (List.mem_of_getElem? (i := 94) rfl))) (mvT hZ (hw _ (List.mem_of_getElem? (i := 93) rfl))) (by decide) (backOf (W := 0) (rm11a1 l Z a0 hw [] b1 b2_2 b5_2 b7_2 k7_2 b9_5 (1 : Int32) (own_ls p4 (own_ls p3 (own_ls p2 (-1 : Int32)))) (own_kp p4 (own_kp p3 (own_kp p2 (0 : Int32)))) (own_ou p4 (own_kp p3 (own_kp p2 (0 : Int32))) (own_ls p3 (own_ls p2 (-1 : Int32))) (own_ou p3 (own_kp p2 (0 : Int32)) (own_ls p2 (-1 : Int32)) (own_ou p2 (0 : Int32) (-1 : Int32) (0 : Int32)))) (2 : Int32) (.ref b9_3) (0 : Int32) T8.heap n0 Z8 hO1 c8_E_b1 c8_F_b1_outOfOrder c8_F_b1_held c8_F_b1_levels c8_F_b1_longBytes c8_F_b1_depth c8_F_b1_started c8_F_b1_heldCount t8_0 t8_1 t8_2 t8_3 t8_4 t8_5 t8_6 c8_V_b7_2 t2_24 nf5_b1_b9_5 nf2_b1_b7_2 (Ne.symm nf5_b7_2_b9_5) g_b1) hZ (hw _ (List.mem_of_getElem? (i := 95) rfl)) (hw _ (List.mem_of_getElem? (i := 2) rfl)) (by decide) (by decide)) q10a q10c (g := (mkF m 51 #[.val (.int p1), .val (.int p2), .val (.int p3), .val (.int p4), .val (.int p5), .val (.ref b1), .unset, .unset, .unset, .unset, .unset, .unset] [(.long (0 : Int64)), (.ref b1)])) rfl (by rw [hml]; rfl) (Steps.refl _) (argsL := [(.long (0 : Int64))]) (rest := []) (lenOf pd_0 rfl) rfl (by show 2 * 0 + _ ≤ _; exact Nat.le_of_eq rfl) (hb hby at_51) (fun _ _ => ⟨rfl, rfl, (by decide : 7 + 0 ≤ _), (by decide : 52 + 0 ≤ _)⟩)
    dsimp only [Pt.U, Pt.locs, Pt.cells, Pt.slots] at X10 l10 y10 z10 st10 hQ10
    subst l10 y10 z10
    obtain ⟨rfl, N10q, K10q, t10_0, t10_1, t10_2, t10_3, t10_4, t10_5, t10_6, t10_7⟩ := hQ10
    have N10 := Fr.app N8 N10q
    have c10_E_b2_2 := c8_E_b2_2.keep K10q
    have c10_F_b2_2_map := c8_F_b2_2_map.keep K10q (by simp only [List.mem_cons, List.not_mem_nil, or_false, not_or]; exact (Ne.symm nf2_b1_b2_2))
    have c10_E_b2_3_2 := c8_E_b2_3_2.keep K10q
    have c10_F_b2_3_2_table := c8_F_b2_3_2_table.keep K10q (by simp only [List.mem_cons, List.not_mem_nil, or_false, not_or]; exact (Ne.symm nf2_b1_b2_3_2))
    have c10_F_b2_3_2_threshold := c8_F_b2_3_2_threshold.keep K10q (by simp only [List.mem_cons, List.not_mem_nil, or_false, not_or]; exact (Ne.symm nf2_b1_b2_3_2))
    have c10_F_b2_3_2_modCount := c8_F_b2_3_2_modCount.keep K10q (by simp only [List.mem_cons, List.not_mem_nil, or_false, not_or]; exact (Ne.symm nf2_b1_b2_3_2))
    have c10_F_b2_3_2_size := c8_F_b2_3_2_size.keep K10q (by simp only [List.mem_cons, List.not_mem_nil, or_false, not_or]; exact (Ne.symm nf2_b1_b2_3_2))
    have c10_F_b2_3_2_loadFactor := c8_F_b2_3_2_loadFactor.keep K10q (by simp only [List.mem_cons, List.not_mem_nil, or_false, not_or]; exact (Ne.symm nf2_b1_b2_3_2))
    have c10_V_b5_2 := c8_V_b5_2.keep K10q (by simp only [List.mem_cons, List.not_mem_nil, or_false, not_or]; exact (Ne.symm nf2_b1_b5_2))
    have c10_E_b9_3 := c8_E_b9_3.keep K10q
    have c10_F_b9_3_number := c8_F_b9_3_number.keep K10q (by simp only [List.mem_cons, List.not_mem_nil, or_false, not_or]; exact (Ne.symm nf3_b1_b9_3))
    have c10_F_b9_3_record := c8_F_b9_3_record.keep K10q (by simp only [List.mem_cons, List.not_mem_nil, or_false, not_or]; exact (Ne.symm nf3_b1_b9_3))
    have c10_F_b9_3_start := c8_F_b9_3_start.keep K10q (by simp only [List.mem_cons, List.not_mem_nil, or_false, not_or]; exact (Ne.symm nf3_b1_b9_3))
    have c10_F_b9_3_lastDeclared := c8_F_b9_3_lastDeclared.keep K10q (by simp only [List.mem_cons, List.not_mem_nil, or_false, not_or]; exact (Ne.symm nf3_b1_b9_3))
    have c10_F_b9_3_kept := c8_F_b9_3_kept.keep K10q (by simp only [List.mem_cons, List.not_mem_nil, or_false, not_or]; exact (Ne.symm nf3_b1_b9_3))
    have c10_F_b9_3_out := c8_F_b9_3_out.keep K10q (by simp only [List.mem_cons, List.not_mem_nil, or_false, not_or]; exact (Ne.symm nf3_b1_b9_3))
    have c10_V_b7_2 := c8_V_b7_2.keep K10q (by simp only [List.mem_cons, List.not_mem_nil, or_false, not_or]; exact (Ne.symm nf2_b1_b7_2))
    have Z10 : n0 ≤ T10.heap.size := Nat.le_trans Z8 K10q.1
    have O10 := O8.keep K10q (fun x hx => by simp only [List.mem_cons, List.not_mem_nil, or_false] at hx; rcases hx with rfl <;> first | exact g_b1)
    obtain ⟨cq11, kq11, q11a, q11b, q11c⟩ := isOf hZ rfl t10_0
    obtain ⟨_, _, ⟨T11, L11, k11, n11⟩, -, X11, ⟨Lc11, hQ11, l11, y11, z11⟩, st11⟩ := X10.virtualBack hx (y := (⟨"com/example/kindgen/kindgen/core/document/RecordOrder", "held", "()[I"⟩ : MethodName)) (z := (⟨"com/example/kindgen/kindgen/core/document/RecordOrder", "held", "()[I"⟩ : MethodName)) hown (mvT hZ (hw _ (List.mem_of_getElem? (i := 166) rfl))) (mvT hZ (hw _ (List.mem_of_getElem? (i := 167) rfl))) (notFace_of_selects (args := #[]) (mvT hZ (hw _ (List.mem_of_getElem? (i := 169) rfl)))) (mvT hZ (hw _ (List.mem_of_getElem? (i := 169) rfl))) (mvT hZ (hw _ (List.mem_of_getElem? (i := 168) rfl))) (by decide) (backOf (W := 0) (rm21k0 l Z a0 hw [] b1 b5_2 k5_2 (0 : Int32) T10.heap n0 Z10 t10_0 t10_2 t10_7 c10_V_b5_2 nf2_b1_b5_2) hZ (hw _ (List.mem_of_getElem? (i := 170) rfl)) (hw _ (List.mem_of_getElem? (i := 2) rfl)) (by decide) (by decide)) q11a q11c (g := (mkF m 56 #[.val (.int p1), .val (.int p2), .val (.int p3), .val (.int p4), .val (.int p5), .val (.ref b1), .unset, .unset, .unset, .unset, .unset, .unset] [(.ref b1)])) rfl (by rw [hml]; rfl) (Steps.refl _) (argsL := []) (rest := []) (lenOf pd_13 rfl) rfl (by show 2 * 0 + _ ≤ _; exact Nat.le_of_eq rfl) (hb hby at_56) (fun _ _ => ⟨rfl, rfl, (by decide : 7 + 1 ≤ _), (by decide : 52 + 0 ≤ _)⟩)
    dsimp only [Pt.U, Pt.locs, Pt.cells, Pt.slots] at X11 l11 y11 z11 st11 hQ11
    subst l11 y11 z11
    obtain ⟨b2_3_11, k2_3_11, rfl, N11q, K11q, t11_0, t11_1, t11_2⟩ := hQ11
    have N11 := Fr.app N10 N11q
    have nf11_b1_b2_3_11 : b1 ≠ b2_3_11 := Nat.ne_of_lt (Nat.lt_of_lt_of_le t10_0.lt t11_2)
    have nf11_b2_3_2_b2_3_11 : b2_3_2 ≠ b2_3_11 := Nat.ne_of_lt (Nat.lt_of_lt_of_le c10_E_b2_3_2.lt t11_2)
    have nf11_b5_2_b2_3_11 : b5_2 ≠ b2_3_11 := Nat.ne_of_lt (Nat.lt_of_lt_of_le c10_V_b5_2.lt t11_2)
    have nf11_b9_3_b2_3_11 : b9_3 ≠ b2_3_11 := Nat.ne_of_lt (Nat.lt_of_lt_of_le c10_E_b9_3.lt t11_2)
    have c11_E_b1 := t10_0.keep K11q
    have c11_E_b2_2 := c10_E_b2_2.keep K11q
    have c11_F_b2_2_map := c10_F_b2_2_map.keep K11q (by simp)
    have c11_E_b2_3_2 := c10_E_b2_3_2.keep K11q
    have c11_F_b2_3_2_table := c10_F_b2_3_2_table.keep K11q (by simp)
    have c11_F_b2_3_2_threshold := c10_F_b2_3_2_threshold.keep K11q (by simp)
    have c11_F_b2_3_2_modCount := c10_F_b2_3_2_modCount.keep K11q (by simp)
    have c11_F_b2_3_2_size := c10_F_b2_3_2_size.keep K11q (by simp)
    have c11_F_b2_3_2_loadFactor := c10_F_b2_3_2_loadFactor.keep K11q (by simp)
    have c11_V_b5_2 := c10_V_b5_2.keep K11q (by simp)
    have c11_E_b9_3 := c10_E_b9_3.keep K11q
    have c11_F_b9_3_number := c10_F_b9_3_number.keep K11q (by simp)
    have c11_F_b9_3_record := c10_F_b9_3_record.keep K11q (by simp)
    have c11_F_b9_3_start := c10_F_b9_3_start.keep K11q (by simp)
    have c11_F_b9_3_lastDeclared := c10_F_b9_3_lastDeclared.keep K11q (by simp)
    have c11_F_b9_3_kept := c10_F_b9_3_kept.keep K11q (by simp)
    have c11_F_b9_3_out := c10_F_b9_3_out.keep K11q (by simp)
    have c11_V_b7_2 := c10_V_b7_2.keep K11q (by simp)
    have c11_F_b1_outOfOrder := t10_1.keep K11q (by simp)
    have c11_F_b1_held := t10_2.keep K11q (by simp)
    have c11_F_b1_levels := t10_3.keep K11q (by simp)
    have c11_F_b1_longBytes := t10_4.keep K11q (by simp)
    have c11_F_b1_depth := t10_5.keep K11q (by simp)
    have c11_F_b1_started := t10_6.keep K11q (by simp)
    have c11_F_b1_heldCount := t10_7.keep K11q (by simp)
    have Z11 : n0 ≤ T11.heap.size := Nat.le_trans Z10 K11q.1
    have O11 := O10.keep K11q (fun x hx => by cases hx)
    obtain ⟨cq12, kq12, q12a, q12b, q12c⟩ := isOf hZ rfl c11_E_b1
    obtain ⟨_, _, ⟨T12, L12, k12, n12⟩, -, X12, ⟨Lc12, hQ12, l12, y12, z12⟩, st12⟩ := X11.virtualBack hx (y := (⟨"com/example/kindgen/kindgen/core/document/RecordOrder", "member", "(I)V"⟩ : MethodName)) (z := (⟨"com/example/kindgen/kindgen/core/document/RecordOrder", "member", "(I)V"⟩ : MethodName)) hown (mvT hZ (hw _ (List.mem_of_getElem? (i := 86) rfl))) (mvT hZ (hw _ (List.mem_of_getElem? (i := 87) rfl))) (notFace_of_selects (args := #[]) (mvT hZ (hw _ (List.mem_of_getElem? (i := 89) rfl)))) (mvT hZ (hw _ (List.mem_of_getElem? (i := 89) rfl))) (mvT hZ (hw _ (List.mem_of_getElem? (i := 88) rfl))) (by decide) (backOf (W := 0) (rm10m0 l Z a0 hw [] b1 p5 b2_2 b5_2 b7_2 k7_2 b9_3 (2 : Int32) (0 : Int32) (0 : Int32) (own_ls p1 (-1 : Int32)) (own_kp p1 (0 : Int32)) (own_ou p1 (0 : Int32) (-1 : Int32) (0 : Int32)) (.ref b9_5) T11.heap n0 Z11 (own_ou01 (Or.inl rfl)) c11_E_b1 c11_F_b1_outOfOrder c11_F_b1_held c11_F_b1_levels c11_F_b1_longBytes c11_F_b1_depth c11_F_b1_started c11_F_b1_heldCount c11_E_b9_3 c11_F_b9_3_number c11_F_b9_3_record c11_F_b9_3_start c11_F_b9_3_lastDeclared c11_F_b9_3_kept c11_F_b9_3_out c11_V_b7_2 t2_24 nf3_b1_b9_3 nf2_b1_b7_2 (Ne.symm nf3_b7_2_b9_3) t3_16) hZ (hw _ (List.mem_of_getElem? (i := 90) rfl)) (hw _ (List.mem_of_getElem? (i := 2) rfl)) (by decide) (by decide)) q12a q12c (g := (mkF m 65 #[.val (.int p1), .val (.int p2), .val (.int p3), .val (.int p4), .val (.int p5), .val (.ref b1), .val (.ref b2_3_11), .unset, .unset, .unset, .unset, .unset] [(.int p5), (.ref b1)])) rfl (by rw [hml]; rfl) (Steps.refl _) (argsL := [(.int p5)]) (rest := []) (lenOf pd_3 rfl) rfl (by show 2 * 0 + _ ≤ _; exact Nat.le_of_eq rfl) (hb hby at_65) (fun _ _ => ⟨rfl, rfl, (by decide : 8 + 0 ≤ _), (by decide : 52 + 0 ≤ _)⟩)
    dsimp only [Pt.U, Pt.locs, Pt.cells, Pt.slots] at X12 l12 y12 z12 st12 hQ12
    subst l12 y12 z12
    obtain ⟨rfl, N12q, K12q, t12_0, t12_1, t12_2, t12_3, t12_4, t12_5, t12_6⟩ := hQ12
    have N12 := Fr.app N11 N12q
    have c12_E_b1 := c11_E_b1.keep K12q
    have c12_E_b2_2 := c11_E_b2_2.keep K12q
    have c12_F_b2_2_map := c11_F_b2_2_map.keep K12q (by simp only [List.mem_cons, List.not_mem_nil, or_false, not_or]; exact nf3_b2_2_b9_3)
    have c12_E_b2_3_2 := c11_E_b2_3_2.keep K12q
    have c12_F_b2_3_2_table := c11_F_b2_3_2_table.keep K12q (by simp only [List.mem_cons, List.not_mem_nil, or_false, not_or]; exact nf3_b2_3_2_b9_3)
    have c12_F_b2_3_2_threshold := c11_F_b2_3_2_threshold.keep K12q (by simp only [List.mem_cons, List.not_mem_nil, or_false, not_or]; exact nf3_b2_3_2_b9_3)
    have c12_F_b2_3_2_modCount := c11_F_b2_3_2_modCount.keep K12q (by simp only [List.mem_cons, List.not_mem_nil, or_false, not_or]; exact nf3_b2_3_2_b9_3)
    have c12_F_b2_3_2_size := c11_F_b2_3_2_size.keep K12q (by simp only [List.mem_cons, List.not_mem_nil, or_false, not_or]; exact nf3_b2_3_2_b9_3)
    have c12_F_b2_3_2_loadFactor := c11_F_b2_3_2_loadFactor.keep K12q (by simp only [List.mem_cons, List.not_mem_nil, or_false, not_or]; exact nf3_b2_3_2_b9_3)
    have c12_V_b5_2 := c11_V_b5_2.keep K12q (by simp only [List.mem_cons, List.not_mem_nil, or_false, not_or]; exact nf3_b5_2_b9_3)
    have c12_V_b7_2 := c11_V_b7_2.keep K12q (by simp only [List.mem_cons, List.not_mem_nil, or_false, not_or]; exact nf3_b7_2_b9_3)
    have c12_F_b1_outOfOrder := c11_F_b1_outOfOrder.keep K12q (by simp only [List.mem_cons, List.not_mem_nil, or_false, not_or]; exact nf3_b1_b9_3)
    have c12_F_b1_held := c11_F_b1_held.keep K12q (by simp only [List.mem_cons, List.not_mem_nil, or_false, not_or]; exact nf3_b1_b9_3)
    have c12_F_b1_levels := c11_F_b1_levels.keep K12q (by simp only [List.mem_cons, List.not_mem_nil, or_false, not_or]; exact nf3_b1_b9_3)
    have c12_F_b1_longBytes := c11_F_b1_longBytes.keep K12q (by simp only [List.mem_cons, List.not_mem_nil, or_false, not_or]; exact nf3_b1_b9_3)
    have c12_F_b1_depth := c11_F_b1_depth.keep K12q (by simp only [List.mem_cons, List.not_mem_nil, or_false, not_or]; exact nf3_b1_b9_3)
    have c12_F_b1_started := c11_F_b1_started.keep K12q (by simp only [List.mem_cons, List.not_mem_nil, or_false, not_or]; exact nf3_b1_b9_3)
    have c12_F_b1_heldCount := c11_F_b1_heldCount.keep K12q (by simp only [List.mem_cons, List.not_mem_nil, or_false, not_or]; exact nf3_b1_b9_3)
    have c12_V_b2_3_11 := t11_0.keep K12q (by simp only [List.mem_cons, List.not_mem_nil, or_false, not_or]; exact (Ne.symm nf11_b9_3_b2_3_11))
    have Z12 : n0 ≤ T12.heap.size := Nat.le_trans Z11 K12q.1
    have O12 := O11.keep K12q (fun x hx => by simp only [List.mem_cons, List.not_mem_nil, or_false] at hx; rcases hx with rfl <;> first | exact t3_16)
    have pre13 : ∀ t, Steps p.tables e below (T12.setTop (mkF m 71 #[.val (.int p1), .val (.int p2), .val (.int p3), .val (.int p4), .val (.int p5), .val (.ref b1), .val (.ref b2_3_11), .unset, .unset, .unset, .unset, .unset] [(.long (0 : Int64)), (.ref b1)])) t → Steps p.tables e below (s₁.setTop (entryFrame m #[(.int p1), (.int p2), (.int p3), (.int p4), (.int p5)] maxLocals)) t := by
      intro t k
      refine pre9 t ?_
      show Steps p.tables e below (T8.setTop (mkF m 51 #[.val (.int p1), .val (.int p2), .val (.int p3), .val (.int p4), .val (.int p5), .val (.ref b1), .unset, .unset, .unset, .unset, .unset, .unset] [(.long (0 : Int64)), (.ref b1)])) _
      refine st10.trans ?_
      refine XS.aload X10.here hx rfl (hb hby at_54) rfl rfl ?_
      show Steps p.tables e below (T10.setTop (mkF m 56 #[.val (.int p1), .val (.int p2), .val (.int p3), .val (.int p4), .val (.int p5), .val (.ref b1), .unset, .unset, .unset, .unset, .unset, .unset] [(.ref b1)])) _
      refine st11.trans ?_
      show Steps p.tables e below (T11.setTop (mkF m 59 #[.val (.int p1), .val (.int p2), .val (.int p3), .val (.int p4), .val (.int p5), .val (.ref b1), .unset, .unset, .unset, .unset, .unset, .unset] [(.ref b2_3_11)])) _
      refine XS.astore X11.here hx rfl (hb hby at_59) rfl rfl (l' := #[.val (.int p1), .val (.int p2), .val (.int p3), .val (.int p4), .val (.int p5), .val (.ref b1), .val (.ref b2_3_11), .unset, .unset, .unset, .unset, .unset]) rfl ?_
      refine XS.aload X11.here hx rfl (hb hby at_61) rfl rfl ?_
      refine XS.iload X11.here hx rfl (hb hby at_63) rfl ?_
      show Steps p.tables e below (T11.setTop (mkF m 65 #[.val (.int p1), .val (.int p2), .val (.int p3), .val (.int p4), .val (.int p5), .val (.ref b1), .val (.ref b2_3_11), .unset, .unset, .unset, .unset, .unset] [(.int p5), (.ref b1)])) _
      refine st12.trans ?_
      refine XS.aload X12.here hx rfl (hb hby at_68) rfl rfl ?_
      refine XS.lconst X12.here hx rfl (hb hby at_70) ?_
      exact k
    by_cases hO0 : (own_ou p5 (own_kp p1 (0 : Int32)) (own_ls p1 (-1 : Int32)) (own_ou p1 (0 : Int32) (-1 : Int32) (0 : Int32))) = (0 : Int32)
    · have q1 := own_one p1 p5
      obtain ⟨cq14, kq14, q14a, q14b, q14c⟩ := isOf hZ rfl c12_E_b1
      obtain ⟨_, _, ⟨T14, L14, k14, n14⟩, -, X14, ⟨Lc14, hQ14, l14, y14, z14⟩, st14⟩ := X12.virtualBack hx (y := (⟨"com/example/kindgen/kindgen/core/document/RecordOrder", "end", "(J)V"⟩ : MethodName)) (z := (⟨"com/example/kindgen/kindgen/core/document/RecordOrder", "end", "(J)V"⟩ : MethodName)) hown (mvT hZ (hw _ (List.mem_of_getElem? (i := 91) rfl))) (mvT hZ (hw _ (List.mem_of_getElem? (i := 92) rfl))) (notFace_of_selects (args := #[]) (mvT hZ (hw _ (List.mem_of_getElem? (i := 94) rfl)))) (mvT hZ (hw _ (List.mem_of_getElem? (i := 94) rfl))) (mvT hZ (hw _ (List.mem_of_getElem? (i := 93) rfl))) (by decide) (backOf (W := 0) (rm11a0 l Z a0 hw [] b1 b2_2 b5_2 b7_2 k7_2 b9_3 (0 : Int32) (own_ls p5 (own_ls p1 (-1 : Int32))) (own_kp p5 (own_kp p1 (0 : Int32))) (own_ou p5 (own_kp p1 (0 : Int32)) (own_ls p1 (-1 : Int32)) (own_ou p1 (0 : Int32) (-1 : Int32) (0 : Int32))) (2 : Int32) (.ref b9_5) (0 : Int32) T12.heap n0 Z12 hO0 c12_E_b1 c12_F_b1_outOfOrder c12_F_b1_held c12_F_b1_levels c12_F_b1_longBytes c12_F_b1_depth c12_F_b1_started c12_F_b1_heldCount t12_0 t12_1 t12_2 t12_3 t12_4 t12_5 t12_6 c12_V_b7_2 t2_24 nf3_b1_b9_3 nf2_b1_b7_2 (Ne.symm nf3_b7_2_b9_3) g_b1) hZ (hw _ (List.mem_of_getElem? (i := 95) rfl)) (hw _ (List.mem_of_getElem? (i := 2) rfl)) (by decide) (by decide)) q14a q14c (g := (mkF m 71 #[.val (.int p1), .val (.int p2), .val (.int p3), .val (.int p4), .val (.int p5), .val (.ref b1), .val (.ref b2_3_11), .unset, .unset, .unset, .unset, .unset] [(.long (0 : Int64)), (.ref b1)])) rfl (by rw [hml]; rfl) (Steps.refl _) (argsL := [(.long (0 : Int64))]) (rest := []) (lenOf pd_0 rfl) rfl (by show 2 * 0 + _ ≤ _; exact Nat.le_of_eq rfl) (hb hby at_71) (fun _ _ => ⟨rfl, rfl, (by decide : 8 + 0 ≤ _), (by decide : 52 + 0 ≤ _)⟩)
      dsimp only [Pt.U, Pt.locs, Pt.cells, Pt.slots] at X14 l14 y14 z14 st14 hQ14
      subst l14 y14 z14
      obtain ⟨rfl, N14q, K14q, t14_0, t14_1, t14_2, t14_3, t14_4, t14_5, t14_6, t14_7⟩ := hQ14
      have N14 := Fr.app N12 N14q
      have c14_V_b5_2 := c12_V_b5_2.keep K14q (by simp only [List.mem_cons, List.not_mem_nil, or_false, not_or]; exact (Ne.symm nf2_b1_b5_2))
      have c14_V_b2_3_11 := c12_V_b2_3_11.keep K14q (by simp only [List.mem_cons, List.not_mem_nil, or_false, not_or]; exact (Ne.symm nf11_b1_b2_3_11))
      have Z14 : n0 ≤ T14.heap.size := Nat.le_trans Z12 K14q.1
      obtain ⟨cq15, kq15, q15a, q15b, q15c⟩ := isOf hZ rfl t14_0
      obtain ⟨_, _, ⟨T15, L15, k15, n15⟩, -, X15, ⟨Lc15, hQ15, l15, y15, z15⟩, st15⟩ := X14.virtualBack hx (y := (⟨"com/example/kindgen/kindgen/core/document/RecordOrder", "held", "()[I"⟩ : MethodName)) (z := (⟨"com/example/kindgen/kindgen/core/document/RecordOrder", "held", "()[I"⟩ : MethodName)) hown (mvT hZ (hw _ (List.mem_of_getElem? (i := 166) rfl))) (mvT hZ (hw _ (List.mem_of_getElem? (i := 167) rfl))) (notFace_of_selects (args := #[]) (mvT hZ (hw _ (List.mem_of_getElem? (i := 169) rfl)))) (mvT hZ (hw _ (List.mem_of_getElem? (i := 169) rfl))) (mvT hZ (hw _ (List.mem_of_getElem? (i := 168) rfl))) (by decide) (backOf (W := 0) (rm21k0 l Z a0 hw [] b1 b5_2 k5_2 (0 : Int32) T14.heap n0 Z14 t14_0 t14_2 t14_7 c14_V_b5_2 nf2_b1_b5_2) hZ (hw _ (List.mem_of_getElem? (i := 170) rfl)) (hw _ (List.mem_of_getElem? (i := 2) rfl)) (by decide) (by decide)) q15a q15c (g := (mkF m 76 #[.val (.int p1), .val (.int p2), .val (.int p3), .val (.int p4), .val (.int p5), .val (.ref b1), .val (.ref b2_3_11), .unset, .unset, .unset, .unset, .unset] [(.ref b1)])) rfl (by rw [hml]; rfl) (Steps.refl _) (argsL := []) (rest := []) (lenOf pd_13 rfl) rfl (by show 2 * 0 + _ ≤ _; exact Nat.le_of_eq rfl) (hb hby at_76) (fun _ _ => ⟨rfl, rfl, (by decide : 8 + 1 ≤ _), (by decide : 52 + 0 ≤ _)⟩)
      dsimp only [Pt.U, Pt.locs, Pt.cells, Pt.slots] at X15 l15 y15 z15 st15 hQ15
      subst l15 y15 z15
      obtain ⟨b2_3_15, k2_3_15, rfl, N15q, K15q, t15_0, t15_1, t15_2⟩ := hQ15
      have N15 := Fr.app N14 N15q
      have c15_V_b2_3_11 := c14_V_b2_3_11.keep K15q (by simp)
      have Z15 : n0 ≤ T15.heap.size := Nat.le_trans Z14 K15q.1
      obtain ⟨_, _, ⟨T16, L16, k16, n16⟩, -, X16, ⟨Lc16, hQ16, l16, y16, z16⟩, st16⟩ := Jvm.LawKit.callS X15 hx (y := (⟨"com/example/kindgen/kindgen/core/document/RecordOrderMemberPinLaw", "pair", "(II)Z"⟩ : MethodName)) hown (mvT hZ (hw _ (List.mem_of_getElem? (i := 183) rfl))) (mvT hZ (hw _ (List.mem_of_getElem? (i := 184) rfl))) (mvT hZ (hw _ (List.mem_of_getElem? (i := 185) rfl))) (mvT hZ (hw _ (List.mem_of_getElem? (i := 186) rfl))) (by decide) (backOf (W := 0) (rm24 l Z a0 hw [] p2 p3 T15.heap n0 Z15) hZ (hw _ (List.mem_of_getElem? (i := 186) rfl)) (hw _ (List.mem_of_getElem? (i := 185) rfl)) (by decide) (by decide)) (g := (mkF m 83 #[.val (.int p1), .val (.int p2), .val (.int p3), .val (.int p4), .val (.int p5), .val (.ref b1), .val (.ref b2_3_11), .val (.ref b2_3_15), .unset, .unset, .unset, .unset] [(.int p3), (.int p2)])) rfl (by rw [hml]; rfl) (argsL := [(.int p2), (.int p3)]) (rest := []) (lenOf pd_17 rfl) rfl (by show 2 * 0 + _ ≤ _; exact Nat.le_of_eq rfl) (hb hby at_83) (fun _ _ => ⟨rfl, rfl, (by decide : 9 + 0 ≤ _), (by decide : 52 + 0 ≤ _)⟩)
      dsimp only [Pt.U, Pt.locs, Pt.cells, Pt.slots] at X16 l16 y16 z16 st16 hQ16
      subst l16 y16 z16
      obtain ⟨rfl, N16q, e16⟩ := hQ16
      have N16 := Fr.app N15 N16q
      obtain ⟨_, _, ⟨T17, L17, k17, n17⟩, -, X17, ⟨Lc17, hQ17, l17, y17, z17⟩, st17⟩ := Jvm.LawKit.callS X16 hx (y := (⟨"com/example/kindgen/kindgen/core/document/RecordOrderMemberPinLaw", "pair", "(II)Z"⟩ : MethodName)) hown (mvT hZ (hw _ (List.mem_of_getElem? (i := 183) rfl))) (mvT hZ (hw _ (List.mem_of_getElem? (i := 184) rfl))) (mvT hZ (hw _ (List.mem_of_getElem? (i := 185) rfl))) (mvT hZ (hw _ (List.mem_of_getElem? (i := 186) rfl))) (by decide) (backOf (W := 0) (rm24 l Z a0 hw [] p2 p4 T15.heap n0 Z15) hZ (hw _ (List.mem_of_getElem? (i := 186) rfl)) (hw _ (List.mem_of_getElem? (i := 185) rfl)) (by decide) (by decide)) (g := (mkF m 91 #[.val (.int p1), .val (.int p2), .val (.int p3), .val (.int p4), .val (.int p5), .val (.ref b1), .val (.ref b2_3_11), .val (.ref b2_3_15), .unset, .unset, .unset, .unset] [(.int p4), (.int p2)])) rfl (by rw [hml]; rfl) (argsL := [(.int p2), (.int p4)]) (rest := []) (lenOf pd_17 rfl) rfl (by show 2 * 0 + _ ≤ _; exact Nat.le_of_eq rfl) (hb hby at_91) (fun _ _ => ⟨rfl, e16, (by decide : 9 + 0 ≤ _), (by decide : 52 + 0 ≤ _)⟩)
      dsimp only [Pt.U, Pt.locs, Pt.cells, Pt.slots] at X17 l17 y17 z17 st17 hQ17
      subst l17 y17 z17
      obtain ⟨rfl, N17q, e17⟩ := hQ17
      have N17 := Fr.app N16 N17q
      obtain ⟨_, _, ⟨T18, L18, k18, n18⟩, -, X18, ⟨Lc18, hQ18, l18, y18, z18⟩, st18⟩ := Jvm.LawKit.callS X17 hx (y := (⟨"com/example/kindgen/kindgen/core/document/RecordOrderMemberPinLaw", "pair", "(II)Z"⟩ : MethodName)) hown (mvT hZ (hw _ (List.mem_of_getElem? (i := 183) rfl))) (mvT hZ (hw _ (List.mem_of_getElem? (i := 184) rfl))) (mvT hZ (hw _ (List.mem_of_getElem? (i := 185) rfl))) (mvT hZ (hw _ (List.mem_of_getElem? (i := 186) rfl))) (by decide) (backOf (W := 0) (rm24 l Z a0 hw [] p3 p4 T15.heap n0 Z15) hZ (hw _ (List.mem_of_getElem? (i := 186) rfl)) (hw _ (List.mem_of_getElem? (i := 185) rfl)) (by decide) (by decide)) (g := (mkF m 99 #[.val (.int p1), .val (.int p2), .val (.int p3), .val (.int p4), .val (.int p5), .val (.ref b1), .val (.ref b2_3_11), .val (.ref b2_3_15), .unset, .unset, .unset, .unset] [(.int p4), (.int p3)])) rfl (by rw [hml]; rfl) (argsL := [(.int p3), (.int p4)]) (rest := []) (lenOf pd_17 rfl) rfl (by show 2 * 0 + _ ≤ _; exact Nat.le_of_eq rfl) (hb hby at_99) (fun _ _ => ⟨rfl, e17, (by decide : 9 + 0 ≤ _), (by decide : 52 + 0 ≤ _)⟩)
      dsimp only [Pt.U, Pt.locs, Pt.cells, Pt.slots] at X18 l18 y18 z18 st18 hQ18
      subst l18 y18 z18
      obtain ⟨rfl, N18q, e18⟩ := hQ18
      have N18 := Fr.app N17 N18q
      obtain ⟨_, _, ⟨T19, L19, k19, n19⟩, -, X19, ⟨Lc19, hQ19, l19, y19, z19⟩, st19⟩ := Jvm.LawKit.callS X18 hx (y := (⟨"com/example/kindgen/kindgen/core/document/RecordOrderMemberPinLaw", "pair", "(II)Z"⟩ : MethodName)) hown (mvT hZ (hw _ (List.mem_of_getElem? (i := 183) rfl))) (mvT hZ (hw _ (List.mem_of_getElem? (i := 184) rfl))) (mvT hZ (hw _ (List.mem_of_getElem? (i := 185) rfl))) (mvT hZ (hw _ (List.mem_of_getElem? (i := 186) rfl))) (by decide) (backOf (W := 0) (rm24 l Z a0 hw [] p1 p5 T15.heap n0 Z15) hZ (hw _ (List.mem_of_getElem? (i := 186) rfl)) (hw _ (List.mem_of_getElem? (i := 185) rfl)) (by decide) (by decide)) (g := (mkF m 115 #[.val (.int p1), .val (.int p2), .val (.int p3), .val (.int p4), .val (.int p5), .val (.ref b1), .val (.ref b2_3_11), .val (.ref b2_3_15), .val (.int (0 : Int32)), .unset, .unset, .unset] [(.int p5), (.int p1)])) rfl (by rw [hml]; rfl) (argsL := [(.int p1), (.int p5)]) (rest := []) (lenOf pd_17 rfl) rfl (by show 2 * 0 + _ ≤ _; exact Nat.le_of_eq rfl) (hb hby at_115) (fun _ _ => ⟨rfl, e18, (by decide : 9 + 0 ≤ _), (by decide : 52 + 0 ≤ _)⟩)
      dsimp only [Pt.U, Pt.locs, Pt.cells, Pt.slots] at X19 l19 y19 z19 st19 hQ19
      subst l19 y19 z19
      obtain ⟨rfl, N19q, e19⟩ := hQ19
      have N19 := Fr.app N18 N19q
      obtain ⟨cl_20, Ar_20, -, S_20, N_20, -, -⟩ := id c15_V_b2_3_11
      obtain ⟨cl_21, Ar_21, -, S_21, N_21, -, -⟩ := id t15_0
      obtain ⟨fs, hr, hrun, hended, hW, hsame⟩ := X19.leave (v := some (.int (1 : Int32))) (fun h => by rw [Bd.returns] at h; cases h)
      refine ⟨_, _, pre13 _ ?_, hrun, hended, _, _, rfl, ?_, ⟨_, rfl⟩, hW, hsame.mono (by decide) (by decide)⟩
      · show Steps p.tables e below (T12.setTop (mkF m 71 #[.val (.int p1), .val (.int p2), .val (.int p3), .val (.int p4), .val (.int p5), .val (.ref b1), .val (.ref b2_3_11), .unset, .unset, .unset, .unset, .unset] [(.long (0 : Int64)), (.ref b1)])) _
        refine st14.trans ?_
        refine XS.aload X14.here hx rfl (hb hby at_74) rfl rfl ?_
        show Steps p.tables e below (T14.setTop (mkF m 76 #[.val (.int p1), .val (.int p2), .val (.int p3), .val (.int p4), .val (.int p5), .val (.ref b1), .val (.ref b2_3_11), .unset, .unset, .unset, .unset, .unset] [(.ref b1)])) _
        refine st15.trans ?_
        show Steps p.tables e below (T15.setTop (mkF m 79 #[.val (.int p1), .val (.int p2), .val (.int p3), .val (.int p4), .val (.int p5), .val (.ref b1), .val (.ref b2_3_11), .unset, .unset, .unset, .unset, .unset] [(.ref b2_3_15)])) _
        refine XS.astore X15.here hx rfl (hb hby at_79) rfl rfl (l' := #[.val (.int p1), .val (.int p2), .val (.int p3), .val (.int p4), .val (.int p5), .val (.ref b1), .val (.ref b2_3_11), .val (.ref b2_3_15), .unset, .unset, .unset, .unset]) rfl ?_
        refine XS.iloadN X15.here hx rfl (hb hby at_81) rfl ?_
        refine XS.iloadN X15.here hx rfl (hb hby at_82) rfl ?_
        show Steps p.tables e below (T15.setTop (mkF m 83 #[.val (.int p1), .val (.int p2), .val (.int p3), .val (.int p4), .val (.int p5), .val (.ref b1), .val (.ref b2_3_11), .val (.ref b2_3_15), .unset, .unset, .unset, .unset] [(.int p3), (.int p2)])) _
        refine st16 _ ?_
        show Steps p.tables e below (T16.setTop (mkF m 86 #[.val (.int p1), .val (.int p2), .val (.int p3), .val (.int p4), .val (.int p5), .val (.ref b1), .val (.ref b2_3_11), .val (.ref b2_3_15), .unset, .unset, .unset, .unset] [(.int (sp24 p2 p3))])) _
        refine XS.ifNo X16.here hx rfl (hb hby at_86) rfl ((if0 _ _).trans (teq q3.1).2) ?_
        refine XS.iloadN X16.here hx rfl (hb hby at_89) rfl ?_
        refine XS.iloadN X16.here hx rfl (hb hby at_90) rfl ?_
        show Steps p.tables e below (T16.setTop (mkF m 91 #[.val (.int p1), .val (.int p2), .val (.int p3), .val (.int p4), .val (.int p5), .val (.ref b1), .val (.ref b2_3_11), .val (.ref b2_3_15), .unset, .unset, .unset, .unset] [(.int p4), (.int p2)])) _
        refine st17 _ ?_
        show Steps p.tables e below (T17.setTop (mkF m 94 #[.val (.int p1), .val (.int p2), .val (.int p3), .val (.int p4), .val (.int p5), .val (.ref b1), .val (.ref b2_3_11), .val (.ref b2_3_15), .unset, .unset, .unset, .unset] [(.int (sp24 p2 p4))])) _
        refine XS.ifNo X17.here hx rfl (hb hby at_94) rfl ((if0 _ _).trans (teq q3.2.1).2) ?_
        refine XS.iloadN X17.here hx rfl (hb hby at_97) rfl ?_
        refine XS.iloadN X17.here hx rfl (hb hby at_98) rfl ?_
        show Steps p.tables e below (T17.setTop (mkF m 99 #[.val (.int p1), .val (.int p2), .val (.int p3), .val (.int p4), .val (.int p5), .val (.ref b1), .val (.ref b2_3_11), .val (.ref b2_3_15), .unset, .unset, .unset, .unset] [(.int p4), (.int p3)])) _
        refine st18 _ ?_
        show Steps p.tables e below (T18.setTop (mkF m 102 #[.val (.int p1), .val (.int p2), .val (.int p3), .val (.int p4), .val (.int p5), .val (.ref b1), .val (.ref b2_3_11), .val (.ref b2_3_15), .unset, .unset, .unset, .unset] [(.int (sp24 p3 p4))])) _
        refine XS.ifYes X18.here hx rfl (pc0 := 102) (pc' := 109) rfl (hb hby at_102) rfl ((if0 _ _).trans (teq q3.2.2).1) (by decide) (by decide) ?_
        refine XS.iconst X18.here hx rfl (hb hby at_109) ?_
        refine XS.istore X18.here hx rfl (hb hby at_110) rfl (l' := #[.val (.int p1), .val (.int p2), .val (.int p3), .val (.int p4), .val (.int p5), .val (.ref b1), .val (.ref b2_3_11), .val (.ref b2_3_15), .val (.int (0 : Int32)), .unset, .unset, .unset]) rfl ?_
        refine XS.iloadN X18.here hx rfl (hb hby at_112) rfl ?_
        show Steps p.tables e below (T18.setTop (mkF m 113 #[.val (.int p1), .val (.int p2), .val (.int p3), .val (.int p4), .val (.int p5), .val (.ref b1), .val (.ref b2_3_11), .val (.ref b2_3_15), .val (.int (0 : Int32)), .unset, .unset, .unset] [(.int p1)])) _
        refine XS.iload X18.here hx rfl (hb hby at_113) rfl ?_
        show Steps p.tables e below (T18.setTop (mkF m 115 #[.val (.int p1), .val (.int p2), .val (.int p3), .val (.int p4), .val (.int p5), .val (.ref b1), .val (.ref b2_3_11), .val (.ref b2_3_15), .val (.int (0 : Int32)), .unset, .unset, .unset] [(.int p5), (.int p1)])) _
        refine st19 _ ?_
        refine XS.istore X19.here hx rfl (hb hby at_118) rfl (l' := #[.val (.int p1), .val (.int p2), .val (.int p3), .val (.int p4), .val (.int p5), .val (.ref b1), .val (.ref b2_3_11), .val (.ref b2_3_15), .val (.int (0 : Int32)), .val (.int (sp24 p1 p5)), .unset, .unset]) rfl ?_
        refine XS.iload X19.here hx rfl (hb hby at_120) rfl ?_
        show Steps p.tables e below (T19.setTop (mkF m 122 #[.val (.int p1), .val (.int p2), .val (.int p3), .val (.int p4), .val (.int p5), .val (.ref b1), .val (.ref b2_3_11), .val (.ref b2_3_15), .val (.int (0 : Int32)), .val (.int (sp24 p1 p5)), .unset, .unset] [(.int (0 : Int32))])) _
        refine XS.ifYes X19.here hx rfl (pc0 := 122) (pc' := 150) rfl (hb hby at_122) rfl ((if0 _ _).trans (teq (by decide : (0 : Int32) = (0 : Int32))).1) (by decide) (by decide) ?_
        refine XS.aload X19.here hx rfl (hb hby at_150) rfl rfl ?_
        show Steps p.tables e below (T19.setTop (mkF m 152 #[.val (.int p1), .val (.int p2), .val (.int p3), .val (.int p4), .val (.int p5), .val (.ref b1), .val (.ref b2_3_11), .val (.ref b2_3_15), .val (.int (0 : Int32)), .val (.int (sp24 p1 p5)), .unset, .unset] [(.ref b2_3_11)])) _
        refine X19.arraylength hx (by rw [e19]; exact Ar_20.1) (State.isArrayOf_alike hZ.alike Ar_20.2.1) (g := (mkF m 152 #[.val (.int p1), .val (.int p2), .val (.int p3), .val (.int p4), .val (.int p5), .val (.ref b1), .val (.ref b2_3_11), .val (.ref b2_3_15), .val (.int (0 : Int32)), .val (.int (sp24 p1 p5)), .unset, .unset] [(.ref b2_3_11)])) rfl rfl (hb hby at_152) _ ?_
        rw [len_of S_20 N_20]
        show Steps p.tables e below (T19.setTop (mkF m 153 #[.val (.int p1), .val (.int p2), .val (.int p3), .val (.int p4), .val (.int p5), .val (.ref b1), .val (.ref b2_3_11), .val (.ref b2_3_15), .val (.int (0 : Int32)), .val (.int (sp24 p1 p5)), .unset, .unset] [(.int (0 : Int32))])) _
        refine XS.ifNo X19.here hx rfl (hb hby at_153) rfl ((if0 _ _).trans (teq (by decide : (0 : Int32) = (0 : Int32))).2) ?_
        refine XS.iconst X19.here hx rfl (hb hby at_156) ?_
        refine XS.goto X19.here hx rfl (pc0 := 157) (pc' := 161) rfl (hb hby at_157) (by decide) (by decide) ?_
        refine XS.istore X19.here hx rfl (hb hby at_161) rfl (l' := #[.val (.int p1), .val (.int p2), .val (.int p3), .val (.int p4), .val (.int p5), .val (.ref b1), .val (.ref b2_3_11), .val (.ref b2_3_15), .val (.int (0 : Int32)), .val (.int (sp24 p1 p5)), .val (.int (1 : Int32)), .unset]) rfl ?_
        show Steps p.tables e below (T19.setTop (mkF m 163 #[.val (.int p1), .val (.int p2), .val (.int p3), .val (.int p4), .val (.int p5), .val (.ref b1), .val (.ref b2_3_11), .val (.ref b2_3_15), .val (.int (0 : Int32)), .val (.int (sp24 p1 p5)), .val (.int (1 : Int32)), .unset] [])) _
        refine XS.iload X19.here hx rfl (hb hby at_163) rfl ?_
        show Steps p.tables e below (T19.setTop (mkF m 165 #[.val (.int p1), .val (.int p2), .val (.int p3), .val (.int p4), .val (.int p5), .val (.ref b1), .val (.ref b2_3_11), .val (.ref b2_3_15), .val (.int (0 : Int32)), .val (.int (sp24 p1 p5)), .val (.int (1 : Int32)), .unset] [(.int (sp24 p1 p5))])) _
        refine XS.ifYes X19.here hx rfl (pc0 := 165) (pc' := 192) rfl (hb hby at_165) rfl ((if0 _ _).trans (teq (q1.mp hO0)).1) (by decide) (by decide) ?_
        refine XS.iload X19.here hx rfl (hb hby at_192) rfl ?_
        show Steps p.tables e below (T19.setTop (mkF m 194 #[.val (.int p1), .val (.int p2), .val (.int p3), .val (.int p4), .val (.int p5), .val (.ref b1), .val (.ref b2_3_11), .val (.ref b2_3_15), .val (.int (0 : Int32)), .val (.int (sp24 p1 p5)), .val (.int (1 : Int32)), .unset] [(.int (0 : Int32))])) _
        refine XS.ifYes X19.here hx rfl (pc0 := 194) (pc' := 222) rfl (hb hby at_194) rfl ((if0 _ _).trans (teq (by decide : (0 : Int32) = (0 : Int32))).1) (by decide) (by decide) ?_
        refine XS.aload X19.here hx rfl (hb hby at_222) rfl rfl ?_
        show Steps p.tables e below (T19.setTop (mkF m 224 #[.val (.int p1), .val (.int p2), .val (.int p3), .val (.int p4), .val (.int p5), .val (.ref b1), .val (.ref b2_3_11), .val (.ref b2_3_15), .val (.int (0 : Int32)), .val (.int (sp24 p1 p5)), .val (.int (1 : Int32)), .unset] [(.ref b2_3_15)])) _
        refine X19.arraylength hx (by rw [e19]; exact Ar_21.1) (State.isArrayOf_alike hZ.alike Ar_21.2.1) (g := (mkF m 224 #[.val (.int p1), .val (.int p2), .val (.int p3), .val (.int p4), .val (.int p5), .val (.ref b1), .val (.ref b2_3_11), .val (.ref b2_3_15), .val (.int (0 : Int32)), .val (.int (sp24 p1 p5)), .val (.int (1 : Int32)), .unset] [(.ref b2_3_15)])) rfl rfl (hb hby at_224) _ ?_
        rw [len_of S_21 N_21]
        show Steps p.tables e below (T19.setTop (mkF m 225 #[.val (.int p1), .val (.int p2), .val (.int p3), .val (.int p4), .val (.int p5), .val (.ref b1), .val (.ref b2_3_11), .val (.ref b2_3_15), .val (.int (0 : Int32)), .val (.int (sp24 p1 p5)), .val (.int (1 : Int32)), .unset] [(.int (0 : Int32))])) _
        refine XS.ifNo X19.here hx rfl (hb hby at_225) rfl ((if0 _ _).trans (teq (by decide : (0 : Int32) = (0 : Int32))).2) ?_
        refine XS.iconst X19.here hx rfl (hb hby at_228) ?_
        refine XS.goto X19.here hx rfl (pc0 := 229) (pc' := 233) rfl (hb hby at_229) (by decide) (by decide) ?_
        refine XS.istore X19.here hx rfl (hb hby at_233) rfl (l' := #[.val (.int p1), .val (.int p2), .val (.int p3), .val (.int p4), .val (.int p5), .val (.ref b1), .val (.ref b2_3_11), .val (.ref b2_3_15), .val (.int (0 : Int32)), .val (.int (sp24 p1 p5)), .val (.int (1 : Int32)), .val (.int (1 : Int32))]) rfl ?_
        show Steps p.tables e below (T19.setTop (mkF m 235 #[.val (.int p1), .val (.int p2), .val (.int p3), .val (.int p4), .val (.int p5), .val (.ref b1), .val (.ref b2_3_11), .val (.ref b2_3_15), .val (.int (0 : Int32)), .val (.int (sp24 p1 p5)), .val (.int (1 : Int32)), .val (.int (1 : Int32))] [])) _
        refine XS.iload X19.here hx rfl (hb hby at_235) rfl ?_
        show Steps p.tables e below (T19.setTop (mkF m 237 #[.val (.int p1), .val (.int p2), .val (.int p3), .val (.int p4), .val (.int p5), .val (.ref b1), .val (.ref b2_3_11), .val (.ref b2_3_15), .val (.int (0 : Int32)), .val (.int (sp24 p1 p5)), .val (.int (1 : Int32)), .val (.int (1 : Int32))] [(.int (1 : Int32))])) _
        refine XS.ifNo X19.here hx rfl (hb hby at_237) rfl ((if0 _ _).trans (feq (by decide : ¬ ((1 : Int32) = (0 : Int32)))).1) ?_
        refine XS.iload X19.here hx rfl (hb hby at_240) rfl ?_
        show Steps p.tables e below (T19.setTop (mkF m 242 #[.val (.int p1), .val (.int p2), .val (.int p3), .val (.int p4), .val (.int p5), .val (.ref b1), .val (.ref b2_3_11), .val (.ref b2_3_15), .val (.int (0 : Int32)), .val (.int (sp24 p1 p5)), .val (.int (1 : Int32)), .val (.int (1 : Int32))] [(.int (1 : Int32))])) _
        refine XS.ifNo X19.here hx rfl (hb hby at_242) rfl ((if0 _ _).trans (feq (by decide : ¬ ((1 : Int32) = (0 : Int32)))).1) ?_
        refine XS.iconst X19.here hx rfl (hb hby at_245) ?_
        refine XS.goto X19.here hx rfl (pc0 := 246) (pc' := 250) rfl (hb hby at_246) (by decide) (by decide) ?_
        show Steps p.tables e below (T19.setTop (mkF m 250 #[.val (.int p1), .val (.int p2), .val (.int p3), .val (.int p4), .val (.int p5), .val (.ref b1), .val (.ref b2_3_11), .val (.ref b2_3_15), .val (.int (0 : Int32)), .val (.int (sp24 p1 p5)), .val (.int (1 : Int32)), .val (.int (1 : Int32))] [(.int (1 : Int32))])) _
        exact retN X19 hx (t := .boolean) Bd.returns (by simp) (hb hby at_250) hr
      · show Q0 Z p1 p2 p3 p4 p5 apr h0 n0 _ T19.heap _
        rw [e19]
        exact ⟨rfl, N19⟩
    · have q1 := own_one p1 p5
      obtain ⟨cq22, kq22, q22a, q22b, q22c⟩ := isOf hZ rfl c12_E_b1
      obtain ⟨_, _, ⟨T22, L22, k22, n22⟩, -, X22, ⟨Lc22, hQ22, l22, y22, z22⟩, st22⟩ := X12.virtualBack hx (y := (⟨"com/example/kindgen/kindgen/core/document/RecordOrder", "end", "(J)V"⟩ : MethodName)) (z := (⟨"com/example/kindgen/kindgen/core/document/RecordOrder", "end", "(J)V"⟩ : MethodName)) hown (mvT hZ (hw _ (List.mem_of_getElem? (i := 91) rfl))) (mvT hZ (hw _ (List.mem_of_getElem? (i := 92) rfl))) (notFace_of_selects (args := #[]) (mvT hZ (hw _ (List.mem_of_getElem? (i := 94) rfl)))) (mvT hZ (hw _ (List.mem_of_getElem? (i := 94) rfl))) (mvT hZ (hw _ (List.mem_of_getElem? (i := 93) rfl))) (by decide) (backOf (W := 0) (rm11b0 l Z a0 hw [] b1 b2_2 b5_2 b7_2 k7_2 b9_3 (own_ls p5 (own_ls p1 (-1 : Int32))) (own_kp p5 (own_kp p1 (0 : Int32))) (own_ou p5 (own_kp p1 (0 : Int32)) (own_ls p1 (-1 : Int32)) (own_ou p1 (0 : Int32) (-1 : Int32) (0 : Int32))) k5_2 (2 : Int32) (.ref b9_5) b2_3_2 apr T12.heap n0 Z12 hO0 (S_PRESENT.ext O12.2) c12_E_b1 c12_F_b1_outOfOrder c12_F_b1_held c12_F_b1_levels c12_F_b1_longBytes c12_F_b1_depth c12_F_b1_started c12_F_b1_heldCount t12_0 t12_1 t12_2 t12_3 t12_4 t12_5 t12_6 c12_E_b2_2 c12_F_b2_2_map c12_E_b2_3_2 c12_F_b2_3_2_table c12_F_b2_3_2_threshold c12_F_b2_3_2_modCount c12_F_b2_3_2_size c12_F_b2_3_2_loadFactor c12_V_b7_2 c12_V_b5_2 t2_24 nf3_b1_b9_3 nf2_b1_b2_2 nf2_b1_b2_3_2 nf2_b1_b7_2 nf2_b1_b5_2 (Ne.symm nf3_b2_2_b9_3) (Ne.symm nf3_b2_3_2_b9_3) (Ne.symm nf3_b7_2_b9_3) (Ne.symm nf3_b5_2_b9_3) t2_27 t2_30 t2_28 t2_31 t2_29 (Ne.symm t2_32) g_b1 t2_21 t2_18) hZ (hw _ (List.mem_of_getElem? (i := 95) rfl)) (hw _ (List.mem_of_getElem? (i := 2) rfl)) (by decide) (by decide)) q22a q22c (g := (mkF m 71 #[.val (.int p1), .val (.int p2), .val (.int p3), .val (.int p4), .val (.int p5), .val (.ref b1), .val (.ref b2_3_11), .unset, .unset, .unset, .unset, .unset] [(.long (0 : Int64)), (.ref b1)])) rfl (by rw [hml]; rfl) (Steps.refl _) (argsL := [(.long (0 : Int64))]) (rest := []) (lenOf pd_0 rfl) rfl (by show 2 * 0 + _ ≤ _; exact Nat.le_of_eq rfl) (hb hby at_71) (fun _ _ => ⟨rfl, rfl, (by decide : 8 + 2 ≤ _), (by decide : 52 + 20 ≤ _)⟩)
      dsimp only [Pt.U, Pt.locs, Pt.cells, Pt.slots] at X22 l22 y22 z22 st22 hQ22
      subst l22 y22 z22
      obtain ⟨b4_2_2_3_9_22, k4_2_2_3_9_22, b1_5_2_3_9_22, rfl, N22q, K22q, t22_0, t22_1, t22_2, t22_3, t22_4, t22_5, t22_6, t22_7, t22_8, t22_9, t22_10, t22_11, t22_12, t22_13, t22_14, t22_15, t22_16, t22_17, t22_18, t22_19, t22_20, t22_21, t22_22, t22_23, t22_24, t22_25, t22_26⟩ := hQ22
      have N22 := Fr.app N12 N22q
      have c22_V_b2_3_11 := c12_V_b2_3_11.keep K22q (by simp only [List.mem_cons, List.not_mem_nil, or_false, not_or]; exact ⟨(Ne.symm nf11_b1_b2_3_11), (Ne.symm nf11_b5_2_b2_3_11), (Ne.symm nf11_b2_3_2_b2_3_11)⟩)
      have Z22 : n0 ≤ T22.heap.size := Nat.le_trans Z12 K22q.1
      obtain ⟨cq23, kq23, q23a, q23b, q23c⟩ := isOf hZ rfl t22_0
      obtain ⟨_, _, ⟨T23, L23, k23, n23⟩, -, X23, ⟨Lc23, hQ23, l23, y23, z23⟩, st23⟩ := X22.virtualBack hx (y := (⟨"com/example/kindgen/kindgen/core/document/RecordOrder", "held", "()[I"⟩ : MethodName)) (z := (⟨"com/example/kindgen/kindgen/core/document/RecordOrder", "held", "()[I"⟩ : MethodName)) hown (mvT hZ (hw _ (List.mem_of_getElem? (i := 166) rfl))) (mvT hZ (hw _ (List.mem_of_getElem? (i := 167) rfl))) (notFace_of_selects (args := #[]) (mvT hZ (hw _ (List.mem_of_getElem? (i := 169) rfl)))) (mvT hZ (hw _ (List.mem_of_getElem? (i := 169) rfl))) (mvT hZ (hw _ (List.mem_of_getElem? (i := 168) rfl))) (by decide) (backOf (W := 0) (rm21k1 l Z a0 hw [] b1 b5_2 k5_2 (0 : Int32) T22.heap n0 Z22 t22_0 t22_2 t22_7 t22_8 nf2_b1_b5_2) hZ (hw _ (List.mem_of_getElem? (i := 170) rfl)) (hw _ (List.mem_of_getElem? (i := 2) rfl)) (by decide) (by decide)) q23a q23c (g := (mkF m 76 #[.val (.int p1), .val (.int p2), .val (.int p3), .val (.int p4), .val (.int p5), .val (.ref b1), .val (.ref b2_3_11), .unset, .unset, .unset, .unset, .unset] [(.ref b1)])) rfl (by rw [hml]; rfl) (Steps.refl _) (argsL := []) (rest := []) (lenOf pd_13 rfl) rfl (by show 2 * 0 + _ ≤ _; exact Nat.le_of_eq rfl) (hb hby at_76) (fun _ _ => ⟨rfl, rfl, (by decide : 10 + 1 ≤ _), (by decide : 72 + 1 ≤ _)⟩)
      dsimp only [Pt.U, Pt.locs, Pt.cells, Pt.slots] at X23 l23 y23 z23 st23 hQ23
      subst l23 y23 z23
      obtain ⟨b2_3_23, k2_3_23, rfl, N23q, K23q, t23_0, t23_1, t23_2⟩ := hQ23
      have N23 := Fr.app N22 N23q
      have c23_V_b2_3_11 := c22_V_b2_3_11.keep K23q (by simp)
      have Z23 : n0 ≤ T23.heap.size := Nat.le_trans Z22 K23q.1
      obtain ⟨_, _, ⟨T24, L24, k24, n24⟩, -, X24, ⟨Lc24, hQ24, l24, y24, z24⟩, st24⟩ := Jvm.LawKit.callS X23 hx (y := (⟨"com/example/kindgen/kindgen/core/document/RecordOrderMemberPinLaw", "pair", "(II)Z"⟩ : MethodName)) hown (mvT hZ (hw _ (List.mem_of_getElem? (i := 183) rfl))) (mvT hZ (hw _ (List.mem_of_getElem? (i := 184) rfl))) (mvT hZ (hw _ (List.mem_of_getElem? (i := 185) rfl))) (mvT hZ (hw _ (List.mem_of_getElem? (i := 186) rfl))) (by decide) (backOf (W := 0) (rm24 l Z a0 hw [] p2 p3 T23.heap n0 Z23) hZ (hw _ (List.mem_of_getElem? (i := 186) rfl)) (hw _ (List.mem_of_getElem? (i := 185) rfl)) (by decide) (by decide)) (g := (mkF m 83 #[.val (.int p1), .val (.int p2), .val (.int p3), .val (.int p4), .val (.int p5), .val (.ref b1), .val (.ref b2_3_11), .val (.ref b2_3_23), .unset, .unset, .unset, .unset] [(.int p3), (.int p2)])) rfl (by rw [hml]; rfl) (argsL := [(.int p2), (.int p3)]) (rest := []) (lenOf pd_17 rfl) rfl (by show 2 * 0 + _ ≤ _; exact Nat.le_of_eq rfl) (hb hby at_83) (fun _ _ => ⟨rfl, rfl, (by decide : 11 + 0 ≤ _), (by decide : 73 + 0 ≤ _)⟩)
      dsimp only [Pt.U, Pt.locs, Pt.cells, Pt.slots] at X24 l24 y24 z24 st24 hQ24
      subst l24 y24 z24
      obtain ⟨rfl, N24q, e24⟩ := hQ24
      have N24 := Fr.app N23 N24q
      obtain ⟨_, _, ⟨T25, L25, k25, n25⟩, -, X25, ⟨Lc25, hQ25, l25, y25, z25⟩, st25⟩ := Jvm.LawKit.callS X24 hx (y := (⟨"com/example/kindgen/kindgen/core/document/RecordOrderMemberPinLaw", "pair", "(II)Z"⟩ : MethodName)) hown (mvT hZ (hw _ (List.mem_of_getElem? (i := 183) rfl))) (mvT hZ (hw _ (List.mem_of_getElem? (i := 184) rfl))) (mvT hZ (hw _ (List.mem_of_getElem? (i := 185) rfl))) (mvT hZ (hw _ (List.mem_of_getElem? (i := 186) rfl))) (by decide) (backOf (W := 0) (rm24 l Z a0 hw [] p2 p4 T23.heap n0 Z23) hZ (hw _ (List.mem_of_getElem? (i := 186) rfl)) (hw _ (List.mem_of_getElem? (i := 185) rfl)) (by decide) (by decide)) (g := (mkF m 91 #[.val (.int p1), .val (.int p2), .val (.int p3), .val (.int p4), .val (.int p5), .val (.ref b1), .val (.ref b2_3_11), .val (.ref b2_3_23), .unset, .unset, .unset, .unset] [(.int p4), (.int p2)])) rfl (by rw [hml]; rfl) (argsL := [(.int p2), (.int p4)]) (rest := []) (lenOf pd_17 rfl) rfl (by show 2 * 0 + _ ≤ _; exact Nat.le_of_eq rfl) (hb hby at_91) (fun _ _ => ⟨rfl, e24, (by decide : 11 + 0 ≤ _), (by decide : 73 + 0 ≤ _)⟩)
      dsimp only [Pt.U, Pt.locs, Pt.cells, Pt.slots] at X25 l25 y25 z25 st25 hQ25
      subst l25 y25 z25
      obtain ⟨rfl, N25q, e25⟩ := hQ25
      have N25 := Fr.app N24 N25q
      obtain ⟨_, _, ⟨T26, L26, k26, n26⟩, -, X26, ⟨Lc26, hQ26, l26, y26, z26⟩, st26⟩ := Jvm.LawKit.callS X25 hx (y := (⟨"com/example/kindgen/kindgen/core/document/RecordOrderMemberPinLaw", "pair", "(II)Z"⟩ : MethodName)) hown (mvT hZ (hw _ (List.mem_of_getElem? (i := 183) rfl))) (mvT hZ (hw _ (List.mem_of_getElem? (i := 184) rfl))) (mvT hZ (hw _ (List.mem_of_getElem? (i := 185) rfl))) (mvT hZ (hw _ (List.mem_of_getElem? (i := 186) rfl))) (by decide) (backOf (W := 0) (rm24 l Z a0 hw [] p3 p4 T23.heap n0 Z23) hZ (hw _ (List.mem_of_getElem? (i := 186) rfl)) (hw _ (List.mem_of_getElem? (i := 185) rfl)) (by decide) (by decide)) (g := (mkF m 99 #[.val (.int p1), .val (.int p2), .val (.int p3), .val (.int p4), .val (.int p5), .val (.ref b1), .val (.ref b2_3_11), .val (.ref b2_3_23), .unset, .unset, .unset, .unset] [(.int p4), (.int p3)])) rfl (by rw [hml]; rfl) (argsL := [(.int p3), (.int p4)]) (rest := []) (lenOf pd_17 rfl) rfl (by show 2 * 0 + _ ≤ _; exact Nat.le_of_eq rfl) (hb hby at_99) (fun _ _ => ⟨rfl, e25, (by decide : 11 + 0 ≤ _), (by decide : 73 + 0 ≤ _)⟩)
      dsimp only [Pt.U, Pt.locs, Pt.cells, Pt.slots] at X26 l26 y26 z26 st26 hQ26
      subst l26 y26 z26
      obtain ⟨rfl, N26q, e26⟩ := hQ26
      have N26 := Fr.app N25 N26q
      obtain ⟨_, _, ⟨T27, L27, k27, n27⟩, -, X27, ⟨Lc27, hQ27, l27, y27, z27⟩, st27⟩ := Jvm.LawKit.callS X26 hx (y := (⟨"com/example/kindgen/kindgen/core/document/RecordOrderMemberPinLaw", "pair", "(II)Z"⟩ : MethodName)) hown (mvT hZ (hw _ (List.mem_of_getElem? (i := 183) rfl))) (mvT hZ (hw _ (List.mem_of_getElem? (i := 184) rfl))) (mvT hZ (hw _ (List.mem_of_getElem? (i := 185) rfl))) (mvT hZ (hw _ (List.mem_of_getElem? (i := 186) rfl))) (by decide) (backOf (W := 0) (rm24 l Z a0 hw [] p1 p5 T23.heap n0 Z23) hZ (hw _ (List.mem_of_getElem? (i := 186) rfl)) (hw _ (List.mem_of_getElem? (i := 185) rfl)) (by decide) (by decide)) (g := (mkF m 115 #[.val (.int p1), .val (.int p2), .val (.int p3), .val (.int p4), .val (.int p5), .val (.ref b1), .val (.ref b2_3_11), .val (.ref b2_3_23), .val (.int (0 : Int32)), .unset, .unset, .unset] [(.int p5), (.int p1)])) rfl (by rw [hml]; rfl) (argsL := [(.int p1), (.int p5)]) (rest := []) (lenOf pd_17 rfl) rfl (by show 2 * 0 + _ ≤ _; exact Nat.le_of_eq rfl) (hb hby at_115) (fun _ _ => ⟨rfl, e26, (by decide : 11 + 0 ≤ _), (by decide : 73 + 0 ≤ _)⟩)
      dsimp only [Pt.U, Pt.locs, Pt.cells, Pt.slots] at X27 l27 y27 z27 st27 hQ27
      subst l27 y27 z27
      obtain ⟨rfl, N27q, e27⟩ := hQ27
      have N27 := Fr.app N26 N27q
      obtain ⟨cl_28, Ar_28, -, S_28, N_28, -, -⟩ := id c23_V_b2_3_11
      obtain ⟨cl_29, Ar_29, -, S_29, N_29, -, -⟩ := id t23_0
      obtain ⟨cl_30, Ar_30, -, S_30, N_30, H_30, -⟩ := id t23_0
      have hin_30 : ¬ ((0 : Int32) < 0 ∨ cl_30.slots.size ≤ ((0 : Int32)).toNatClampNeg) := inb_of S_30 ⟨by decide, by decide⟩
      have hat_30 : cl_30.slots[((0 : Int32)).toNatClampNeg]? = some (.int (0 : Int32)) := Has.at H_30 hin_30 rfl
      obtain ⟨fs, hr, hrun, hended, hW, hsame⟩ := X27.leave (v := some (.int (1 : Int32))) (fun h => by rw [Bd.returns] at h; cases h)
      refine ⟨_, _, pre13 _ ?_, hrun, hended, _, _, rfl, ?_, ⟨_, rfl⟩, hW, hsame.mono (by decide) (by decide)⟩
      · show Steps p.tables e below (T12.setTop (mkF m 71 #[.val (.int p1), .val (.int p2), .val (.int p3), .val (.int p4), .val (.int p5), .val (.ref b1), .val (.ref b2_3_11), .unset, .unset, .unset, .unset, .unset] [(.long (0 : Int64)), (.ref b1)])) _
        refine st22.trans ?_
        refine XS.aload X22.here hx rfl (hb hby at_74) rfl rfl ?_
        show Steps p.tables e below (T22.setTop (mkF m 76 #[.val (.int p1), .val (.int p2), .val (.int p3), .val (.int p4), .val (.int p5), .val (.ref b1), .val (.ref b2_3_11), .unset, .unset, .unset, .unset, .unset] [(.ref b1)])) _
        refine st23.trans ?_
        show Steps p.tables e below (T23.setTop (mkF m 79 #[.val (.int p1), .val (.int p2), .val (.int p3), .val (.int p4), .val (.int p5), .val (.ref b1), .val (.ref b2_3_11), .unset, .unset, .unset, .unset, .unset] [(.ref b2_3_23)])) _
        refine XS.astore X23.here hx rfl (hb hby at_79) rfl rfl (l' := #[.val (.int p1), .val (.int p2), .val (.int p3), .val (.int p4), .val (.int p5), .val (.ref b1), .val (.ref b2_3_11), .val (.ref b2_3_23), .unset, .unset, .unset, .unset]) rfl ?_
        refine XS.iloadN X23.here hx rfl (hb hby at_81) rfl ?_
        refine XS.iloadN X23.here hx rfl (hb hby at_82) rfl ?_
        show Steps p.tables e below (T23.setTop (mkF m 83 #[.val (.int p1), .val (.int p2), .val (.int p3), .val (.int p4), .val (.int p5), .val (.ref b1), .val (.ref b2_3_11), .val (.ref b2_3_23), .unset, .unset, .unset, .unset] [(.int p3), (.int p2)])) _
        refine st24 _ ?_
        show Steps p.tables e below (T24.setTop (mkF m 86 #[.val (.int p1), .val (.int p2), .val (.int p3), .val (.int p4), .val (.int p5), .val (.ref b1), .val (.ref b2_3_11), .val (.ref b2_3_23), .unset, .unset, .unset, .unset] [(.int (sp24 p2 p3))])) _
        refine XS.ifNo X24.here hx rfl (hb hby at_86) rfl ((if0 _ _).trans (teq q3.1).2) ?_
        refine XS.iloadN X24.here hx rfl (hb hby at_89) rfl ?_
        refine XS.iloadN X24.here hx rfl (hb hby at_90) rfl ?_
        show Steps p.tables e below (T24.setTop (mkF m 91 #[.val (.int p1), .val (.int p2), .val (.int p3), .val (.int p4), .val (.int p5), .val (.ref b1), .val (.ref b2_3_11), .val (.ref b2_3_23), .unset, .unset, .unset, .unset] [(.int p4), (.int p2)])) _
        refine st25 _ ?_
        show Steps p.tables e below (T25.setTop (mkF m 94 #[.val (.int p1), .val (.int p2), .val (.int p3), .val (.int p4), .val (.int p5), .val (.ref b1), .val (.ref b2_3_11), .val (.ref b2_3_23), .unset, .unset, .unset, .unset] [(.int (sp24 p2 p4))])) _
        refine XS.ifNo X25.here hx rfl (hb hby at_94) rfl ((if0 _ _).trans (teq q3.2.1).2) ?_
        refine XS.iloadN X25.here hx rfl (hb hby at_97) rfl ?_
        refine XS.iloadN X25.here hx rfl (hb hby at_98) rfl ?_
        show Steps p.tables e below (T25.setTop (mkF m 99 #[.val (.int p1), .val (.int p2), .val (.int p3), .val (.int p4), .val (.int p5), .val (.ref b1), .val (.ref b2_3_11), .val (.ref b2_3_23), .unset, .unset, .unset, .unset] [(.int p4), (.int p3)])) _
        refine st26 _ ?_
        show Steps p.tables e below (T26.setTop (mkF m 102 #[.val (.int p1), .val (.int p2), .val (.int p3), .val (.int p4), .val (.int p5), .val (.ref b1), .val (.ref b2_3_11), .val (.ref b2_3_23), .unset, .unset, .unset, .unset] [(.int (sp24 p3 p4))])) _
        refine XS.ifYes X26.here hx rfl (pc0 := 102) (pc' := 109) rfl (hb hby at_102) rfl ((if0 _ _).trans (teq q3.2.2).1) (by decide) (by decide) ?_
        refine XS.iconst X26.here hx rfl (hb hby at_109) ?_
        refine XS.istore X26.here hx rfl (hb hby at_110) rfl (l' := #[.val (.int p1), .val (.int p2), .val (.int p3), .val (.int p4), .val (.int p5), .val (.ref b1), .val (.ref b2_3_11), .val (.ref b2_3_23), .val (.int (0 : Int32)), .unset, .unset, .unset]) rfl ?_
        refine XS.iloadN X26.here hx rfl (hb hby at_112) rfl ?_
        show Steps p.tables e below (T26.setTop (mkF m 113 #[.val (.int p1), .val (.int p2), .val (.int p3), .val (.int p4), .val (.int p5), .val (.ref b1), .val (.ref b2_3_11), .val (.ref b2_3_23), .val (.int (0 : Int32)), .unset, .unset, .unset] [(.int p1)])) _
        refine XS.iload X26.here hx rfl (hb hby at_113) rfl ?_
        show Steps p.tables e below (T26.setTop (mkF m 115 #[.val (.int p1), .val (.int p2), .val (.int p3), .val (.int p4), .val (.int p5), .val (.ref b1), .val (.ref b2_3_11), .val (.ref b2_3_23), .val (.int (0 : Int32)), .unset, .unset, .unset] [(.int p5), (.int p1)])) _
        refine st27 _ ?_
        refine XS.istore X27.here hx rfl (hb hby at_118) rfl (l' := #[.val (.int p1), .val (.int p2), .val (.int p3), .val (.int p4), .val (.int p5), .val (.ref b1), .val (.ref b2_3_11), .val (.ref b2_3_23), .val (.int (0 : Int32)), .val (.int (sp24 p1 p5)), .unset, .unset]) rfl ?_
        refine XS.iload X27.here hx rfl (hb hby at_120) rfl ?_
        show Steps p.tables e below (T27.setTop (mkF m 122 #[.val (.int p1), .val (.int p2), .val (.int p3), .val (.int p4), .val (.int p5), .val (.ref b1), .val (.ref b2_3_11), .val (.ref b2_3_23), .val (.int (0 : Int32)), .val (.int (sp24 p1 p5)), .unset, .unset] [(.int (0 : Int32))])) _
        refine XS.ifYes X27.here hx rfl (pc0 := 122) (pc' := 150) rfl (hb hby at_122) rfl ((if0 _ _).trans (teq (by decide : (0 : Int32) = (0 : Int32))).1) (by decide) (by decide) ?_
        refine XS.aload X27.here hx rfl (hb hby at_150) rfl rfl ?_
        show Steps p.tables e below (T27.setTop (mkF m 152 #[.val (.int p1), .val (.int p2), .val (.int p3), .val (.int p4), .val (.int p5), .val (.ref b1), .val (.ref b2_3_11), .val (.ref b2_3_23), .val (.int (0 : Int32)), .val (.int (sp24 p1 p5)), .unset, .unset] [(.ref b2_3_11)])) _
        refine X27.arraylength hx (by rw [e27]; exact Ar_28.1) (State.isArrayOf_alike hZ.alike Ar_28.2.1) (g := (mkF m 152 #[.val (.int p1), .val (.int p2), .val (.int p3), .val (.int p4), .val (.int p5), .val (.ref b1), .val (.ref b2_3_11), .val (.ref b2_3_23), .val (.int (0 : Int32)), .val (.int (sp24 p1 p5)), .unset, .unset] [(.ref b2_3_11)])) rfl rfl (hb hby at_152) _ ?_
        rw [len_of S_28 N_28]
        show Steps p.tables e below (T27.setTop (mkF m 153 #[.val (.int p1), .val (.int p2), .val (.int p3), .val (.int p4), .val (.int p5), .val (.ref b1), .val (.ref b2_3_11), .val (.ref b2_3_23), .val (.int (0 : Int32)), .val (.int (sp24 p1 p5)), .unset, .unset] [(.int (0 : Int32))])) _
        refine XS.ifNo X27.here hx rfl (hb hby at_153) rfl ((if0 _ _).trans (teq (by decide : (0 : Int32) = (0 : Int32))).2) ?_
        refine XS.iconst X27.here hx rfl (hb hby at_156) ?_
        refine XS.goto X27.here hx rfl (pc0 := 157) (pc' := 161) rfl (hb hby at_157) (by decide) (by decide) ?_
        refine XS.istore X27.here hx rfl (hb hby at_161) rfl (l' := #[.val (.int p1), .val (.int p2), .val (.int p3), .val (.int p4), .val (.int p5), .val (.ref b1), .val (.ref b2_3_11), .val (.ref b2_3_23), .val (.int (0 : Int32)), .val (.int (sp24 p1 p5)), .val (.int (1 : Int32)), .unset]) rfl ?_
        show Steps p.tables e below (T27.setTop (mkF m 163 #[.val (.int p1), .val (.int p2), .val (.int p3), .val (.int p4), .val (.int p5), .val (.ref b1), .val (.ref b2_3_11), .val (.ref b2_3_23), .val (.int (0 : Int32)), .val (.int (sp24 p1 p5)), .val (.int (1 : Int32)), .unset] [])) _
        refine XS.iload X27.here hx rfl (hb hby at_163) rfl ?_
        show Steps p.tables e below (T27.setTop (mkF m 165 #[.val (.int p1), .val (.int p2), .val (.int p3), .val (.int p4), .val (.int p5), .val (.ref b1), .val (.ref b2_3_11), .val (.ref b2_3_23), .val (.int (0 : Int32)), .val (.int (sp24 p1 p5)), .val (.int (1 : Int32)), .unset] [(.int (sp24 p1 p5))])) _
        refine XS.ifNo X27.here hx rfl (hb hby at_165) rfl ((if0 _ _).trans (feq (fun q => hO0 (q1.mpr q))).1) ?_
        refine XS.aload X27.here hx rfl (hb hby at_168) rfl rfl ?_
        show Steps p.tables e below (T27.setTop (mkF m 170 #[.val (.int p1), .val (.int p2), .val (.int p3), .val (.int p4), .val (.int p5), .val (.ref b1), .val (.ref b2_3_11), .val (.ref b2_3_23), .val (.int (0 : Int32)), .val (.int (sp24 p1 p5)), .val (.int (1 : Int32)), .unset] [(.ref b2_3_23)])) _
        refine X27.arraylength hx (by rw [e27]; exact Ar_29.1) (State.isArrayOf_alike hZ.alike Ar_29.2.1) (g := (mkF m 170 #[.val (.int p1), .val (.int p2), .val (.int p3), .val (.int p4), .val (.int p5), .val (.ref b1), .val (.ref b2_3_11), .val (.ref b2_3_23), .val (.int (0 : Int32)), .val (.int (sp24 p1 p5)), .val (.int (1 : Int32)), .unset] [(.ref b2_3_23)])) rfl rfl (hb hby at_170) _ ?_
        rw [len_of S_29 N_29]
        refine XS.iconst X27.here hx rfl (hb hby at_171) ?_
        show Steps p.tables e below (T27.setTop (mkF m 172 #[.val (.int p1), .val (.int p2), .val (.int p3), .val (.int p4), .val (.int p5), .val (.ref b1), .val (.ref b2_3_11), .val (.ref b2_3_23), .val (.int (0 : Int32)), .val (.int (sp24 p1 p5)), .val (.int (1 : Int32)), .unset] [(.int (1 : Int32)), (.int (1 : Int32))])) _
        refine XS.icmpNo X27.here hx rfl (hb hby at_172) rfl (teq (by decide : (1 : Int32) = (1 : Int32))).2 ?_
        refine XS.aload X27.here hx rfl (hb hby at_175) rfl rfl ?_
        refine XS.iconst X27.here hx rfl (hb hby at_177) ?_
        show Steps p.tables e below (T27.setTop (mkF m 178 #[.val (.int p1), .val (.int p2), .val (.int p3), .val (.int p4), .val (.int p5), .val (.ref b1), .val (.ref b2_3_11), .val (.ref b2_3_23), .val (.int (0 : Int32)), .val (.int (sp24 p1 p5)), .val (.int (1 : Int32)), .unset] [(.int (0 : Int32)), (.ref b2_3_23)])) _
        refine X27.iaload hx (j := (0 : Int32)) (v := (.int (0 : Int32))) (by rw [e27]; exact Ar_30.1) (State.isArrayOf_alike hZ.alike Ar_30.2.1) Ar_30.2.2 hin_30 hat_30 (g := (mkF m 178 #[.val (.int p1), .val (.int p2), .val (.int p3), .val (.int p4), .val (.int p5), .val (.ref b1), .val (.ref b2_3_11), .val (.ref b2_3_23), .val (.int (0 : Int32)), .val (.int (sp24 p1 p5)), .val (.int (1 : Int32)), .unset] [(.int (0 : Int32)), (.ref b2_3_23)])) rfl rfl (hb hby at_178) _ ?_
        show Steps p.tables e below (T27.setTop (mkF m 179 #[.val (.int p1), .val (.int p2), .val (.int p3), .val (.int p4), .val (.int p5), .val (.ref b1), .val (.ref b2_3_11), .val (.ref b2_3_23), .val (.int (0 : Int32)), .val (.int (sp24 p1 p5)), .val (.int (1 : Int32)), .unset] [(.int (0 : Int32))])) _
        refine XS.ifNo X27.here hx rfl (hb hby at_179) rfl ((if0 _ _).trans (teq (by decide : (0 : Int32) = (0 : Int32))).2) ?_
        refine XS.iconst X27.here hx rfl (hb hby at_182) ?_
        refine XS.goto X27.here hx rfl (pc0 := 183) (pc' := 187) rfl (hb hby at_183) (by decide) (by decide) ?_
        refine XS.istore X27.here hx rfl (hb hby at_187) rfl (l' := #[.val (.int p1), .val (.int p2), .val (.int p3), .val (.int p4), .val (.int p5), .val (.ref b1), .val (.ref b2_3_11), .val (.ref b2_3_23), .val (.int (0 : Int32)), .val (.int (sp24 p1 p5)), .val (.int (1 : Int32)), .val (.int (1 : Int32))]) rfl ?_
        show Steps p.tables e below (T27.setTop (mkF m 189 #[.val (.int p1), .val (.int p2), .val (.int p3), .val (.int p4), .val (.int p5), .val (.ref b1), .val (.ref b2_3_11), .val (.ref b2_3_23), .val (.int (0 : Int32)), .val (.int (sp24 p1 p5)), .val (.int (1 : Int32)), .val (.int (1 : Int32))] [])) _
        refine XS.goto X27.here hx rfl (pc0 := 189) (pc' := 235) rfl (hb hby at_189) (by decide) (by decide) ?_
        refine XS.iload X27.here hx rfl (hb hby at_235) rfl ?_
        show Steps p.tables e below (T27.setTop (mkF m 237 #[.val (.int p1), .val (.int p2), .val (.int p3), .val (.int p4), .val (.int p5), .val (.ref b1), .val (.ref b2_3_11), .val (.ref b2_3_23), .val (.int (0 : Int32)), .val (.int (sp24 p1 p5)), .val (.int (1 : Int32)), .val (.int (1 : Int32))] [(.int (1 : Int32))])) _
        refine XS.ifNo X27.here hx rfl (hb hby at_237) rfl ((if0 _ _).trans (feq (by decide : ¬ ((1 : Int32) = (0 : Int32)))).1) ?_
        refine XS.iload X27.here hx rfl (hb hby at_240) rfl ?_
        show Steps p.tables e below (T27.setTop (mkF m 242 #[.val (.int p1), .val (.int p2), .val (.int p3), .val (.int p4), .val (.int p5), .val (.ref b1), .val (.ref b2_3_11), .val (.ref b2_3_23), .val (.int (0 : Int32)), .val (.int (sp24 p1 p5)), .val (.int (1 : Int32)), .val (.int (1 : Int32))] [(.int (1 : Int32))])) _
        refine XS.ifNo X27.here hx rfl (hb hby at_242) rfl ((if0 _ _).trans (feq (by decide : ¬ ((1 : Int32) = (0 : Int32)))).1) ?_
        refine XS.iconst X27.here hx rfl (hb hby at_245) ?_
        refine XS.goto X27.here hx rfl (pc0 := 246) (pc' := 250) rfl (hb hby at_246) (by decide) (by decide) ?_
        show Steps p.tables e below (T27.setTop (mkF m 250 #[.val (.int p1), .val (.int p2), .val (.int p3), .val (.int p4), .val (.int p5), .val (.ref b1), .val (.ref b2_3_11), .val (.ref b2_3_23), .val (.int (0 : Int32)), .val (.int (sp24 p1 p5)), .val (.int (1 : Int32)), .val (.int (1 : Int32))] [(.int (1 : Int32))])) _
        exact retN X27 hx (t := .boolean) Bd.returns (by simp) (hb hby at_250) hr
      · show Q0 Z p1 p2 p3 p4 p5 apr h0 n0 _ T27.heap _
        rw [e27]
        exact ⟨rfl, N27⟩
  · obtain ⟨cq31, kq31, q31a, q31b, q31c⟩ := isOf hZ rfl c8_E_b1
    obtain ⟨_, _, ⟨T31, L31, k31, n31⟩, -, X31, ⟨Lc31, hQ31, l31, y31, z31⟩, st31⟩ := X8.virtualBack hx (y := (⟨"com/example/kindgen/kindgen/core/document/RecordOrder", "end", "(J)V"⟩ : MethodName)) (z := (⟨"com/example/kindgen/kindgen/core/document/RecordOrder", "end", "(J)V"⟩ : MethodName)) hown (mvT hZ (hw _ (List.mem_of_getElem? (i := 91) rfl))) (mvT hZ (hw _ (List.mem_of_getElem? (i := 92) rfl))) (notFace_of_selects (args := #[]) (mvT hZ (hw _ (List.mem_of_getElem? (i := 94) rfl)))) (mvT hZ (hw _ (List.mem_of_getElem? (i := 94) rfl))) (mvT hZ (hw _ (List.mem_of_getElem? (i := 93) rfl))) (by decide) (backOf (W := 0) (rm11b1 l Z a0 hw [] b1 b2_2 b5_2 b7_2 k7_2 b9_5 (own_ls p4 (own_ls p3 (own_ls p2 (-1 : Int32)))) (own_kp p4 (own_kp p3 (own_kp p2 (0 : Int32)))) (own_ou p4 (own_kp p3 (own_kp p2 (0 : Int32))) (own_ls p3 (own_ls p2 (-1 : Int32))) (own_ou p3 (own_kp p2 (0 : Int32)) (own_ls p2 (-1 : Int32)) (own_ou p2 (0 : Int32) (-1 : Int32) (0 : Int32)))) k5_2 (2 : Int32) (.ref b9_3) b2_3_2 apr T8.heap n0 Z8 hO1 (S_PRESENT.ext O8.2) c8_E_b1 c8_F_b1_outOfOrder c8_F_b1_held c8_F_b1_levels c8_F_b1_longBytes c8_F_b1_depth c8_F_b1_started c8_F_b1_heldCount t8_0 t8_1 t8_2 t8_3 t8_4 t8_5 t8_6 c8_E_b2_2 c8_F_b2_2_map c8_E_b2_3_2 c8_F_b2_3_2_table c8_F_b2_3_2_threshold c8_F_b2_3_2_modCount c8_F_b2_3_2_size c8_F_b2_3_2_loadFactor c8_V_b7_2 c8_V_b5_2 t2_24 nf5_b1_b9_5 nf2_b1_b2_2 nf2_b1_b2_3_2 nf2_b1_b7_2 nf2_b1_b5_2 (Ne.symm nf5_b2_2_b9_5) (Ne.symm nf5_b2_3_2_b9_5) (Ne.symm nf5_b7_2_b9_5) (Ne.symm nf5_b5_2_b9_5) t2_27 t2_30 t2_28 t2_31 t2_29 (Ne.symm t2_32) g_b1 t2_21 t2_18) hZ (hw _ (List.mem_of_getElem? (i := 95) rfl)) (hw _ (List.mem_of_getElem? (i := 2) rfl)) (by decide) (by decide)) q31a q31c (g := (mkF m 51 #[.val (.int p1), .val (.int p2), .val (.int p3), .val (.int p4), .val (.int p5), .val (.ref b1), .unset, .unset, .unset, .unset, .unset, .unset] [(.long (0 : Int64)), (.ref b1)])) rfl (by rw [hml]; rfl) (Steps.refl _) (argsL := [(.long (0 : Int64))]) (rest := []) (lenOf pd_0 rfl) rfl (by show 2 * 0 + _ ≤ _; exact Nat.le_of_eq rfl) (hb hby at_51) (fun _ _ => ⟨rfl, rfl, (by decide : 7 + 2 ≤ _), (by decide : 52 + 20 ≤ _)⟩)
    dsimp only [Pt.U, Pt.locs, Pt.cells, Pt.slots] at X31 l31 y31 z31 st31 hQ31
    subst l31 y31 z31
    obtain ⟨b4_2_2_3_9_31, k4_2_2_3_9_31, b1_5_2_3_9_31, rfl, N31q, K31q, t31_0, t31_1, t31_2, t31_3, t31_4, t31_5, t31_6, t31_7, t31_8, t31_9, t31_10, t31_11, t31_12, t31_13, t31_14, t31_15, t31_16, t31_17, t31_18, t31_19, t31_20, t31_21, t31_22, t31_23, t31_24, t31_25, t31_26⟩ := hQ31
    have N31 := Fr.app N8 N31q
    have nf31_b1_b4_2_2_3_9_31 : b1 ≠ b4_2_2_3_9_31 := Nat.ne_of_lt (Nat.lt_of_lt_of_le c8_E_b1.lt t31_18)
    have nf31_b2_2_b4_2_2_3_9_31 : b2_2 ≠ b4_2_2_3_9_31 := Nat.ne_of_lt (Nat.lt_of_lt_of_le c8_E_b2_2.lt t31_18)
    have nf31_b2_3_2_b4_2_2_3_9_31 : b2_3_2 ≠ b4_2_2_3_9_31 := Nat.ne_of_lt (Nat.lt_of_lt_of_le c8_E_b2_3_2.lt t31_18)
    have nf31_b5_2_b4_2_2_3_9_31 : b5_2 ≠ b4_2_2_3_9_31 := Nat.ne_of_lt (Nat.lt_of_lt_of_le c8_V_b5_2.lt t31_18)
    have nf31_b9_3_b4_2_2_3_9_31 : b9_3 ≠ b4_2_2_3_9_31 := Nat.ne_of_lt (Nat.lt_of_lt_of_le c8_E_b9_3.lt t31_18)
    have nf31_b7_2_b4_2_2_3_9_31 : b7_2 ≠ b4_2_2_3_9_31 := Nat.ne_of_lt (Nat.lt_of_lt_of_le c8_V_b7_2.lt t31_18)
    have nf31_b1_b1_5_2_3_9_31 : b1 ≠ b1_5_2_3_9_31 := Nat.ne_of_lt (Nat.lt_of_lt_of_le c8_E_b1.lt t31_25)
    have nf31_b2_2_b1_5_2_3_9_31 : b2_2 ≠ b1_5_2_3_9_31 := Nat.ne_of_lt (Nat.lt_of_lt_of_le c8_E_b2_2.lt t31_25)
    have nf31_b2_3_2_b1_5_2_3_9_31 : b2_3_2 ≠ b1_5_2_3_9_31 := Nat.ne_of_lt (Nat.lt_of_lt_of_le c8_E_b2_3_2.lt t31_25)
    have nf31_b5_2_b1_5_2_3_9_31 : b5_2 ≠ b1_5_2_3_9_31 := Nat.ne_of_lt (Nat.lt_of_lt_of_le c8_V_b5_2.lt t31_25)
    have nf31_b9_3_b1_5_2_3_9_31 : b9_3 ≠ b1_5_2_3_9_31 := Nat.ne_of_lt (Nat.lt_of_lt_of_le c8_E_b9_3.lt t31_25)
    have nf31_b7_2_b1_5_2_3_9_31 : b7_2 ≠ b1_5_2_3_9_31 := Nat.ne_of_lt (Nat.lt_of_lt_of_le c8_V_b7_2.lt t31_25)
    have c31_E_b2_2 := c8_E_b2_2.keep K31q
    have c31_F_b2_2_map := c8_F_b2_2_map.keep K31q (by simp only [List.mem_cons, List.not_mem_nil, or_false, not_or]; exact ⟨(Ne.symm nf2_b1_b2_2), t2_28, t2_27⟩)
    have c31_E_b9_3 := c8_E_b9_3.keep K31q
    have c31_F_b9_3_number := c8_F_b9_3_number.keep K31q (by simp only [List.mem_cons, List.not_mem_nil, or_false, not_or]; exact ⟨(Ne.symm nf3_b1_b9_3), (Ne.symm nf3_b5_2_b9_3), (Ne.symm nf3_b2_3_2_b9_3)⟩)
    have c31_F_b9_3_record := c8_F_b9_3_record.keep K31q (by simp only [List.mem_cons, List.not_mem_nil, or_false, not_or]; exact ⟨(Ne.symm nf3_b1_b9_3), (Ne.symm nf3_b5_2_b9_3), (Ne.symm nf3_b2_3_2_b9_3)⟩)
    have c31_F_b9_3_start := c8_F_b9_3_start.keep K31q (by simp only [List.mem_cons, List.not_mem_nil, or_false, not_or]; exact ⟨(Ne.symm nf3_b1_b9_3), (Ne.symm nf3_b5_2_b9_3), (Ne.symm nf3_b2_3_2_b9_3)⟩)
    have c31_F_b9_3_lastDeclared := c8_F_b9_3_lastDeclared.keep K31q (by simp only [List.mem_cons, List.not_mem_nil, or_false, not_or]; exact ⟨(Ne.symm nf3_b1_b9_3), (Ne.symm nf3_b5_2_b9_3), (Ne.symm nf3_b2_3_2_b9_3)⟩)
    have c31_F_b9_3_kept := c8_F_b9_3_kept.keep K31q (by simp only [List.mem_cons, List.not_mem_nil, or_false, not_or]; exact ⟨(Ne.symm nf3_b1_b9_3), (Ne.symm nf3_b5_2_b9_3), (Ne.symm nf3_b2_3_2_b9_3)⟩)
    have c31_F_b9_3_out := c8_F_b9_3_out.keep K31q (by simp only [List.mem_cons, List.not_mem_nil, or_false, not_or]; exact ⟨(Ne.symm nf3_b1_b9_3), (Ne.symm nf3_b5_2_b9_3), (Ne.symm nf3_b2_3_2_b9_3)⟩)
    have c31_V_b7_2 := c8_V_b7_2.keep K31q (by simp only [List.mem_cons, List.not_mem_nil, or_false, not_or]; exact ⟨(Ne.symm nf2_b1_b7_2), (Ne.symm t2_32), (Ne.symm t2_31)⟩)
    have Z31 : n0 ≤ T31.heap.size := Nat.le_trans Z8 K31q.1
    have O31 := O8.keep K31q (fun x hx => by simp only [List.mem_cons, List.not_mem_nil, or_false] at hx; rcases hx with rfl | rfl | rfl <;> first | exact g_b1 | exact t2_21 | exact t2_18)
    obtain ⟨cq32, kq32, q32a, q32b, q32c⟩ := isOf hZ rfl t31_0
    obtain ⟨_, _, ⟨T32, L32, k32, n32⟩, -, X32, ⟨Lc32, hQ32, l32, y32, z32⟩, st32⟩ := X31.virtualBack hx (y := (⟨"com/example/kindgen/kindgen/core/document/RecordOrder", "held", "()[I"⟩ : MethodName)) (z := (⟨"com/example/kindgen/kindgen/core/document/RecordOrder", "held", "()[I"⟩ : MethodName)) hown (mvT hZ (hw _ (List.mem_of_getElem? (i := 166) rfl))) (mvT hZ (hw _ (List.mem_of_getElem? (i := 167) rfl))) (notFace_of_selects (args := #[]) (mvT hZ (hw _ (List.mem_of_getElem? (i := 169) rfl)))) (mvT hZ (hw _ (List.mem_of_getElem? (i := 169) rfl))) (mvT hZ (hw _ (List.mem_of_getElem? (i := 168) rfl))) (by decide) (backOf (W := 0) (rm21k1 l Z a0 hw [] b1 b5_2 k5_2 (1 : Int32) T31.heap n0 Z31 t31_0 t31_2 t31_7 t31_8 nf2_b1_b5_2) hZ (hw _ (List.mem_of_getElem? (i := 170) rfl)) (hw _ (List.mem_of_getElem? (i := 2) rfl)) (by decide) (by decide)) q32a q32c (g := (mkF m 56 #[.val (.int p1), .val (.int p2), .val (.int p3), .val (.int p4), .val (.int p5), .val (.ref b1), .unset, .unset, .unset, .unset, .unset, .unset] [(.ref b1)])) rfl (by rw [hml]; rfl) (Steps.refl _) (argsL := []) (rest := []) (lenOf pd_13 rfl) rfl (by show 2 * 0 + _ ≤ _; exact Nat.le_of_eq rfl) (hb hby at_56) (fun _ _ => ⟨rfl, rfl, (by decide : 9 + 1 ≤ _), (by decide : 72 + 1 ≤ _)⟩)
    dsimp only [Pt.U, Pt.locs, Pt.cells, Pt.slots] at X32 l32 y32 z32 st32 hQ32
    subst l32 y32 z32
    obtain ⟨b2_3_32, k2_3_32, rfl, N32q, K32q, t32_0, t32_1, t32_2⟩ := hQ32
    have N32 := Fr.app N31 N32q
    have nf32_b1_b2_3_32 : b1 ≠ b2_3_32 := Nat.ne_of_lt (Nat.lt_of_lt_of_le t31_0.lt t32_2)
    have nf32_b9_3_b2_3_32 : b9_3 ≠ b2_3_32 := Nat.ne_of_lt (Nat.lt_of_lt_of_le c31_E_b9_3.lt t32_2)
    have nf32_b5_2_b2_3_32 : b5_2 ≠ b2_3_32 := Nat.ne_of_lt (Nat.lt_of_lt_of_le t31_8.lt t32_2)
    have nf32_b1_5_2_3_9_31_b2_3_32 : b1_5_2_3_9_31 ≠ b2_3_32 := Nat.ne_of_lt (Nat.lt_of_lt_of_le t31_19.lt t32_2)
    have c32_E_b1 := t31_0.keep K32q
    have c32_E_b2_2 := c31_E_b2_2.keep K32q
    have c32_F_b2_2_map := c31_F_b2_2_map.keep K32q (by simp)
    have c32_E_b2_3_2 := t31_9.keep K32q
    have c32_E_b9_3 := c31_E_b9_3.keep K32q
    have c32_F_b9_3_number := c31_F_b9_3_number.keep K32q (by simp)
    have c32_F_b9_3_record := c31_F_b9_3_record.keep K32q (by simp)
    have c32_F_b9_3_start := c31_F_b9_3_start.keep K32q (by simp)
    have c32_F_b9_3_lastDeclared := c31_F_b9_3_lastDeclared.keep K32q (by simp)
    have c32_F_b9_3_kept := c31_F_b9_3_kept.keep K32q (by simp)
    have c32_F_b9_3_out := c31_F_b9_3_out.keep K32q (by simp)
    have c32_V_b7_2 := c31_V_b7_2.keep K32q (by simp)
    have c32_F_b1_outOfOrder := t31_1.keep K32q (by simp)
    have c32_F_b1_held := t31_2.keep K32q (by simp)
    have c32_F_b1_levels := t31_3.keep K32q (by simp)
    have c32_F_b1_longBytes := t31_4.keep K32q (by simp)
    have c32_F_b1_depth := t31_5.keep K32q (by simp)
    have c32_F_b1_started := t31_6.keep K32q (by simp)
    have c32_F_b1_heldCount := t31_7.keep K32q (by simp)
    have c32_V_b5_2 := t31_8.keep K32q (by simp)
    have c32_F_b2_3_2_table := t31_10.keep K32q (by simp)
    have c32_F_b2_3_2_threshold := t31_11.keep K32q (by simp)
    have c32_F_b2_3_2_modCount := t31_12.keep K32q (by simp)
    have c32_F_b2_3_2_size := t31_13.keep K32q (by simp)
    have c32_F_b2_3_2_loadFactor := t31_14.keep K32q (by simp)
    have c32_V_b4_2_2_3_9_31 := t31_15.keep K32q (by simp)
    have c32_E_b1_5_2_3_9_31 := t31_19.keep K32q
    have c32_F_b1_5_2_3_9_31_hash := t31_20.keep K32q (by simp)
    have c32_F_b1_5_2_3_9_31_key := t31_21.keep K32q (by simp)
    have c32_F_b1_5_2_3_9_31_value := t31_22.keep K32q (by simp)
    have c32_F_b1_5_2_3_9_31_next := t31_23.keep K32q (by simp)
    have Z32 : n0 ≤ T32.heap.size := Nat.le_trans Z31 K32q.1
    have O32 := O31.keep K32q (fun x hx => by cases hx)
    obtain ⟨cq33, kq33, q33a, q33b, q33c⟩ := isOf hZ rfl c32_E_b1
    obtain ⟨_, _, ⟨T33, L33, k33, n33⟩, -, X33, ⟨Lc33, hQ33, l33, y33, z33⟩, st33⟩ := X32.virtualBack hx (y := (⟨"com/example/kindgen/kindgen/core/document/RecordOrder", "member", "(I)V"⟩ : MethodName)) (z := (⟨"com/example/kindgen/kindgen/core/document/RecordOrder", "member", "(I)V"⟩ : MethodName)) hown (mvT hZ (hw _ (List.mem_of_getElem? (i := 86) rfl))) (mvT hZ (hw _ (List.mem_of_getElem? (i := 87) rfl))) (notFace_of_selects (args := #[]) (mvT hZ (hw _ (List.mem_of_getElem? (i := 89) rfl)))) (mvT hZ (hw _ (List.mem_of_getElem? (i := 89) rfl))) (mvT hZ (hw _ (List.mem_of_getElem? (i := 88) rfl))) (by decide) (backOf (W := 0) (rm10m0 l Z a0 hw [] b1 p5 b2_2 b5_2 b7_2 k7_2 b9_3 (2 : Int32) (1 : Int32) (0 : Int32) (own_ls p1 (-1 : Int32)) (own_kp p1 (0 : Int32)) (own_ou p1 (0 : Int32) (-1 : Int32) (0 : Int32)) (.ref b9_5) T32.heap n0 Z32 (own_ou01 (Or.inl rfl)) c32_E_b1 c32_F_b1_outOfOrder c32_F_b1_held c32_F_b1_levels c32_F_b1_longBytes c32_F_b1_depth c32_F_b1_started c32_F_b1_heldCount c32_E_b9_3 c32_F_b9_3_number c32_F_b9_3_record c32_F_b9_3_start c32_F_b9_3_lastDeclared c32_F_b9_3_kept c32_F_b9_3_out c32_V_b7_2 t2_24 nf3_b1_b9_3 nf2_b1_b7_2 (Ne.symm nf3_b7_2_b9_3) t3_16) hZ (hw _ (List.mem_of_getElem? (i := 90) rfl)) (hw _ (List.mem_of_getElem? (i := 2) rfl)) (by decide) (by decide)) q33a q33c (g := (mkF m 65 #[.val (.int p1), .val (.int p2), .val (.int p3), .val (.int p4), .val (.int p5), .val (.ref b1), .val (.ref b2_3_32), .unset, .unset, .unset, .unset, .unset] [(.int p5), (.ref b1)])) rfl (by rw [hml]; rfl) (Steps.refl _) (argsL := [(.int p5)]) (rest := []) (lenOf pd_3 rfl) rfl (by show 2 * 0 + _ ≤ _; exact Nat.le_of_eq rfl) (hb hby at_65) (fun _ _ => ⟨rfl, rfl, (by decide : 10 + 0 ≤ _), (by decide : 73 + 0 ≤ _)⟩)
    dsimp only [Pt.U, Pt.locs, Pt.cells, Pt.slots] at X33 l33 y33 z33 st33 hQ33
    subst l33 y33 z33
    obtain ⟨rfl, N33q, K33q, t33_0, t33_1, t33_2, t33_3, t33_4, t33_5, t33_6⟩ := hQ33
    have N33 := Fr.app N32 N33q
    have c33_E_b1 := c32_E_b1.keep K33q
    have c33_E_b2_2 := c32_E_b2_2.keep K33q
    have c33_F_b2_2_map := c32_F_b2_2_map.keep K33q (by simp only [List.mem_cons, List.not_mem_nil, or_false, not_or]; exact nf3_b2_2_b9_3)
    have c33_E_b2_3_2 := c32_E_b2_3_2.keep K33q
    have c33_V_b7_2 := c32_V_b7_2.keep K33q (by simp only [List.mem_cons, List.not_mem_nil, or_false, not_or]; exact nf3_b7_2_b9_3)
    have c33_F_b1_outOfOrder := c32_F_b1_outOfOrder.keep K33q (by simp only [List.mem_cons, List.not_mem_nil, or_false, not_or]; exact nf3_b1_b9_3)
    have c33_F_b1_held := c32_F_b1_held.keep K33q (by simp only [List.mem_cons, List.not_mem_nil, or_false, not_or]; exact nf3_b1_b9_3)
    have c33_F_b1_levels := c32_F_b1_levels.keep K33q (by simp only [List.mem_cons, List.not_mem_nil, or_false, not_or]; exact nf3_b1_b9_3)
    have c33_F_b1_longBytes := c32_F_b1_longBytes.keep K33q (by simp only [List.mem_cons, List.not_mem_nil, or_false, not_or]; exact nf3_b1_b9_3)
    have c33_F_b1_depth := c32_F_b1_depth.keep K33q (by simp only [List.mem_cons, List.not_mem_nil, or_false, not_or]; exact nf3_b1_b9_3)
    have c33_F_b1_started := c32_F_b1_started.keep K33q (by simp only [List.mem_cons, List.not_mem_nil, or_false, not_or]; exact nf3_b1_b9_3)
    have c33_F_b1_heldCount := c32_F_b1_heldCount.keep K33q (by simp only [List.mem_cons, List.not_mem_nil, or_false, not_or]; exact nf3_b1_b9_3)
    have c33_V_b5_2 := c32_V_b5_2.keep K33q (by simp only [List.mem_cons, List.not_mem_nil, or_false, not_or]; exact nf3_b5_2_b9_3)
    have c33_F_b2_3_2_table := c32_F_b2_3_2_table.keep K33q (by simp only [List.mem_cons, List.not_mem_nil, or_false, not_or]; exact nf3_b2_3_2_b9_3)
    have c33_F_b2_3_2_threshold := c32_F_b2_3_2_threshold.keep K33q (by simp only [List.mem_cons, List.not_mem_nil, or_false, not_or]; exact nf3_b2_3_2_b9_3)
    have c33_F_b2_3_2_modCount := c32_F_b2_3_2_modCount.keep K33q (by simp only [List.mem_cons, List.not_mem_nil, or_false, not_or]; exact nf3_b2_3_2_b9_3)
    have c33_F_b2_3_2_size := c32_F_b2_3_2_size.keep K33q (by simp only [List.mem_cons, List.not_mem_nil, or_false, not_or]; exact nf3_b2_3_2_b9_3)
    have c33_F_b2_3_2_loadFactor := c32_F_b2_3_2_loadFactor.keep K33q (by simp only [List.mem_cons, List.not_mem_nil, or_false, not_or]; exact nf3_b2_3_2_b9_3)
    have c33_V_b4_2_2_3_9_31 := c32_V_b4_2_2_3_9_31.keep K33q (by simp only [List.mem_cons, List.not_mem_nil, or_false, not_or]; exact (Ne.symm nf31_b9_3_b4_2_2_3_9_31))
    have c33_E_b1_5_2_3_9_31 := c32_E_b1_5_2_3_9_31.keep K33q
    have c33_F_b1_5_2_3_9_31_hash := c32_F_b1_5_2_3_9_31_hash.keep K33q (by simp only [List.mem_cons, List.not_mem_nil, or_false, not_or]; exact (Ne.symm nf31_b9_3_b1_5_2_3_9_31))
    have c33_F_b1_5_2_3_9_31_key := c32_F_b1_5_2_3_9_31_key.keep K33q (by simp only [List.mem_cons, List.not_mem_nil, or_false, not_or]; exact (Ne.symm nf31_b9_3_b1_5_2_3_9_31))
    have c33_F_b1_5_2_3_9_31_value := c32_F_b1_5_2_3_9_31_value.keep K33q (by simp only [List.mem_cons, List.not_mem_nil, or_false, not_or]; exact (Ne.symm nf31_b9_3_b1_5_2_3_9_31))
    have c33_F_b1_5_2_3_9_31_next := c32_F_b1_5_2_3_9_31_next.keep K33q (by simp only [List.mem_cons, List.not_mem_nil, or_false, not_or]; exact (Ne.symm nf31_b9_3_b1_5_2_3_9_31))
    have c33_V_b2_3_32 := t32_0.keep K33q (by simp only [List.mem_cons, List.not_mem_nil, or_false, not_or]; exact (Ne.symm nf32_b9_3_b2_3_32))
    have Z33 : n0 ≤ T33.heap.size := Nat.le_trans Z32 K33q.1
    have O33 := O32.keep K33q (fun x hx => by simp only [List.mem_cons, List.not_mem_nil, or_false] at hx; rcases hx with rfl <;> first | exact t3_16)
    have pre34 : ∀ t, Steps p.tables e below (T33.setTop (mkF m 71 #[.val (.int p1), .val (.int p2), .val (.int p3), .val (.int p4), .val (.int p5), .val (.ref b1), .val (.ref b2_3_32), .unset, .unset, .unset, .unset, .unset] [(.long (0 : Int64)), (.ref b1)])) t → Steps p.tables e below (s₁.setTop (entryFrame m #[(.int p1), (.int p2), (.int p3), (.int p4), (.int p5)] maxLocals)) t := by
      intro t k
      refine pre9 t ?_
      show Steps p.tables e below (T8.setTop (mkF m 51 #[.val (.int p1), .val (.int p2), .val (.int p3), .val (.int p4), .val (.int p5), .val (.ref b1), .unset, .unset, .unset, .unset, .unset, .unset] [(.long (0 : Int64)), (.ref b1)])) _
      refine st31.trans ?_
      refine XS.aload X31.here hx rfl (hb hby at_54) rfl rfl ?_
      show Steps p.tables e below (T31.setTop (mkF m 56 #[.val (.int p1), .val (.int p2), .val (.int p3), .val (.int p4), .val (.int p5), .val (.ref b1), .unset, .unset, .unset, .unset, .unset, .unset] [(.ref b1)])) _
      refine st32.trans ?_
      show Steps p.tables e below (T32.setTop (mkF m 59 #[.val (.int p1), .val (.int p2), .val (.int p3), .val (.int p4), .val (.int p5), .val (.ref b1), .unset, .unset, .unset, .unset, .unset, .unset] [(.ref b2_3_32)])) _
      refine XS.astore X32.here hx rfl (hb hby at_59) rfl rfl (l' := #[.val (.int p1), .val (.int p2), .val (.int p3), .val (.int p4), .val (.int p5), .val (.ref b1), .val (.ref b2_3_32), .unset, .unset, .unset, .unset, .unset]) rfl ?_
      refine XS.aload X32.here hx rfl (hb hby at_61) rfl rfl ?_
      refine XS.iload X32.here hx rfl (hb hby at_63) rfl ?_
      show Steps p.tables e below (T32.setTop (mkF m 65 #[.val (.int p1), .val (.int p2), .val (.int p3), .val (.int p4), .val (.int p5), .val (.ref b1), .val (.ref b2_3_32), .unset, .unset, .unset, .unset, .unset] [(.int p5), (.ref b1)])) _
      refine st33.trans ?_
      refine XS.aload X33.here hx rfl (hb hby at_68) rfl rfl ?_
      refine XS.lconst X33.here hx rfl (hb hby at_70) ?_
      exact k
    by_cases hO0 : (own_ou p5 (own_kp p1 (0 : Int32)) (own_ls p1 (-1 : Int32)) (own_ou p1 (0 : Int32) (-1 : Int32) (0 : Int32))) = (0 : Int32)
    · have q1 := own_one p1 p5
      obtain ⟨cq35, kq35, q35a, q35b, q35c⟩ := isOf hZ rfl c33_E_b1
      obtain ⟨_, _, ⟨T35, L35, k35, n35⟩, -, X35, ⟨Lc35, hQ35, l35, y35, z35⟩, st35⟩ := X33.virtualBack hx (y := (⟨"com/example/kindgen/kindgen/core/document/RecordOrder", "end", "(J)V"⟩ : MethodName)) (z := (⟨"com/example/kindgen/kindgen/core/document/RecordOrder", "end", "(J)V"⟩ : MethodName)) hown (mvT hZ (hw _ (List.mem_of_getElem? (i := 91) rfl))) (mvT hZ (hw _ (List.mem_of_getElem? (i := 92) rfl))) (notFace_of_selects (args := #[]) (mvT hZ (hw _ (List.mem_of_getElem? (i := 94) rfl)))) (mvT hZ (hw _ (List.mem_of_getElem? (i := 94) rfl))) (mvT hZ (hw _ (List.mem_of_getElem? (i := 93) rfl))) (by decide) (backOf (W := 0) (rm11a0 l Z a0 hw [] b1 b2_2 b5_2 b7_2 k7_2 b9_3 (0 : Int32) (own_ls p5 (own_ls p1 (-1 : Int32))) (own_kp p5 (own_kp p1 (0 : Int32))) (own_ou p5 (own_kp p1 (0 : Int32)) (own_ls p1 (-1 : Int32)) (own_ou p1 (0 : Int32) (-1 : Int32) (0 : Int32))) (2 : Int32) (.ref b9_5) (1 : Int32) T33.heap n0 Z33 hO0 c33_E_b1 c33_F_b1_outOfOrder c33_F_b1_held c33_F_b1_levels c33_F_b1_longBytes c33_F_b1_depth c33_F_b1_started c33_F_b1_heldCount t33_0 t33_1 t33_2 t33_3 t33_4 t33_5 t33_6 c33_V_b7_2 t2_24 nf3_b1_b9_3 nf2_b1_b7_2 (Ne.symm nf3_b7_2_b9_3) g_b1) hZ (hw _ (List.mem_of_getElem? (i := 95) rfl)) (hw _ (List.mem_of_getElem? (i := 2) rfl)) (by decide) (by decide)) q35a q35c (g := (mkF m 71 #[.val (.int p1), .val (.int p2), .val (.int p3), .val (.int p4), .val (.int p5), .val (.ref b1), .val (.ref b2_3_32), .unset, .unset, .unset, .unset, .unset] [(.long (0 : Int64)), (.ref b1)])) rfl (by rw [hml]; rfl) (Steps.refl _) (argsL := [(.long (0 : Int64))]) (rest := []) (lenOf pd_0 rfl) rfl (by show 2 * 0 + _ ≤ _; exact Nat.le_of_eq rfl) (hb hby at_71) (fun _ _ => ⟨rfl, rfl, (by decide : 10 + 0 ≤ _), (by decide : 73 + 0 ≤ _)⟩)
      dsimp only [Pt.U, Pt.locs, Pt.cells, Pt.slots] at X35 l35 y35 z35 st35 hQ35
      subst l35 y35 z35
      obtain ⟨rfl, N35q, K35q, t35_0, t35_1, t35_2, t35_3, t35_4, t35_5, t35_6, t35_7⟩ := hQ35
      have N35 := Fr.app N33 N35q
      have c35_V_b5_2 := c33_V_b5_2.keep K35q (by simp only [List.mem_cons, List.not_mem_nil, or_false, not_or]; exact (Ne.symm nf2_b1_b5_2))
      have c35_V_b2_3_32 := c33_V_b2_3_32.keep K35q (by simp only [List.mem_cons, List.not_mem_nil, or_false, not_or]; exact (Ne.symm nf32_b1_b2_3_32))
      have Z35 : n0 ≤ T35.heap.size := Nat.le_trans Z33 K35q.1
      obtain ⟨cq36, kq36, q36a, q36b, q36c⟩ := isOf hZ rfl t35_0
      obtain ⟨_, _, ⟨T36, L36, k36, n36⟩, -, X36, ⟨Lc36, hQ36, l36, y36, z36⟩, st36⟩ := X35.virtualBack hx (y := (⟨"com/example/kindgen/kindgen/core/document/RecordOrder", "held", "()[I"⟩ : MethodName)) (z := (⟨"com/example/kindgen/kindgen/core/document/RecordOrder", "held", "()[I"⟩ : MethodName)) hown (mvT hZ (hw _ (List.mem_of_getElem? (i := 166) rfl))) (mvT hZ (hw _ (List.mem_of_getElem? (i := 167) rfl))) (notFace_of_selects (args := #[]) (mvT hZ (hw _ (List.mem_of_getElem? (i := 169) rfl)))) (mvT hZ (hw _ (List.mem_of_getElem? (i := 169) rfl))) (mvT hZ (hw _ (List.mem_of_getElem? (i := 168) rfl))) (by decide) (backOf (W := 0) (rm21k1 l Z a0 hw [] b1 b5_2 k5_2 (1 : Int32) T35.heap n0 Z35 t35_0 t35_2 t35_7 c35_V_b5_2 nf2_b1_b5_2) hZ (hw _ (List.mem_of_getElem? (i := 170) rfl)) (hw _ (List.mem_of_getElem? (i := 2) rfl)) (by decide) (by decide)) q36a q36c (g := (mkF m 76 #[.val (.int p1), .val (.int p2), .val (.int p3), .val (.int p4), .val (.int p5), .val (.ref b1), .val (.ref b2_3_32), .unset, .unset, .unset, .unset, .unset] [(.ref b1)])) rfl (by rw [hml]; rfl) (Steps.refl _) (argsL := []) (rest := []) (lenOf pd_13 rfl) rfl (by show 2 * 0 + _ ≤ _; exact Nat.le_of_eq rfl) (hb hby at_76) (fun _ _ => ⟨rfl, rfl, (by decide : 10 + 1 ≤ _), (by decide : 73 + 1 ≤ _)⟩)
      dsimp only [Pt.U, Pt.locs, Pt.cells, Pt.slots] at X36 l36 y36 z36 st36 hQ36
      subst l36 y36 z36
      obtain ⟨b2_3_36, k2_3_36, rfl, N36q, K36q, t36_0, t36_1, t36_2⟩ := hQ36
      have N36 := Fr.app N35 N36q
      have c36_V_b2_3_32 := c35_V_b2_3_32.keep K36q (by simp)
      have Z36 : n0 ≤ T36.heap.size := Nat.le_trans Z35 K36q.1
      obtain ⟨_, _, ⟨T37, L37, k37, n37⟩, -, X37, ⟨Lc37, hQ37, l37, y37, z37⟩, st37⟩ := Jvm.LawKit.callS X36 hx (y := (⟨"com/example/kindgen/kindgen/core/document/RecordOrderMemberPinLaw", "pair", "(II)Z"⟩ : MethodName)) hown (mvT hZ (hw _ (List.mem_of_getElem? (i := 183) rfl))) (mvT hZ (hw _ (List.mem_of_getElem? (i := 184) rfl))) (mvT hZ (hw _ (List.mem_of_getElem? (i := 185) rfl))) (mvT hZ (hw _ (List.mem_of_getElem? (i := 186) rfl))) (by decide) (backOf (W := 0) (rm24 l Z a0 hw [] p2 p3 T36.heap n0 Z36) hZ (hw _ (List.mem_of_getElem? (i := 186) rfl)) (hw _ (List.mem_of_getElem? (i := 185) rfl)) (by decide) (by decide)) (g := (mkF m 83 #[.val (.int p1), .val (.int p2), .val (.int p3), .val (.int p4), .val (.int p5), .val (.ref b1), .val (.ref b2_3_32), .val (.ref b2_3_36), .unset, .unset, .unset, .unset] [(.int p3), (.int p2)])) rfl (by rw [hml]; rfl) (argsL := [(.int p2), (.int p3)]) (rest := []) (lenOf pd_17 rfl) rfl (by show 2 * 0 + _ ≤ _; exact Nat.le_of_eq rfl) (hb hby at_83) (fun _ _ => ⟨rfl, rfl, (by decide : 11 + 0 ≤ _), (by decide : 74 + 0 ≤ _)⟩)
      dsimp only [Pt.U, Pt.locs, Pt.cells, Pt.slots] at X37 l37 y37 z37 st37 hQ37
      subst l37 y37 z37
      obtain ⟨rfl, N37q, e37⟩ := hQ37
      have N37 := Fr.app N36 N37q
      have pre38 : ∀ t, Steps p.tables e below (T37.setTop (mkF m 86 #[.val (.int p1), .val (.int p2), .val (.int p3), .val (.int p4), .val (.int p5), .val (.ref b1), .val (.ref b2_3_32), .val (.ref b2_3_36), .unset, .unset, .unset, .unset] [(.int (sp24 p2 p3))])) t → Steps p.tables e below (s₁.setTop (entryFrame m #[(.int p1), (.int p2), (.int p3), (.int p4), (.int p5)] maxLocals)) t := by
        intro t k
        refine pre34 t ?_
        show Steps p.tables e below (T33.setTop (mkF m 71 #[.val (.int p1), .val (.int p2), .val (.int p3), .val (.int p4), .val (.int p5), .val (.ref b1), .val (.ref b2_3_32), .unset, .unset, .unset, .unset, .unset] [(.long (0 : Int64)), (.ref b1)])) _
        refine st35.trans ?_
        refine XS.aload X35.here hx rfl (hb hby at_74) rfl rfl ?_
        show Steps p.tables e below (T35.setTop (mkF m 76 #[.val (.int p1), .val (.int p2), .val (.int p3), .val (.int p4), .val (.int p5), .val (.ref b1), .val (.ref b2_3_32), .unset, .unset, .unset, .unset, .unset] [(.ref b1)])) _
        refine st36.trans ?_
        show Steps p.tables e below (T36.setTop (mkF m 79 #[.val (.int p1), .val (.int p2), .val (.int p3), .val (.int p4), .val (.int p5), .val (.ref b1), .val (.ref b2_3_32), .unset, .unset, .unset, .unset, .unset] [(.ref b2_3_36)])) _
        refine XS.astore X36.here hx rfl (hb hby at_79) rfl rfl (l' := #[.val (.int p1), .val (.int p2), .val (.int p3), .val (.int p4), .val (.int p5), .val (.ref b1), .val (.ref b2_3_32), .val (.ref b2_3_36), .unset, .unset, .unset, .unset]) rfl ?_
        refine XS.iloadN X36.here hx rfl (hb hby at_81) rfl ?_
        refine XS.iloadN X36.here hx rfl (hb hby at_82) rfl ?_
        show Steps p.tables e below (T36.setTop (mkF m 83 #[.val (.int p1), .val (.int p2), .val (.int p3), .val (.int p4), .val (.int p5), .val (.ref b1), .val (.ref b2_3_32), .val (.ref b2_3_36), .unset, .unset, .unset, .unset] [(.int p3), (.int p2)])) _
        refine st37 _ ?_
        exact k
      by_cases hc86_39 : (sp24 p2 p3) = (0 : Int32)
      · obtain ⟨_, _, ⟨T40, L40, k40, n40⟩, -, X40, ⟨Lc40, hQ40, l40, y40, z40⟩, st40⟩ := Jvm.LawKit.callS X37 hx (y := (⟨"com/example/kindgen/kindgen/core/document/RecordOrderMemberPinLaw", "pair", "(II)Z"⟩ : MethodName)) hown (mvT hZ (hw _ (List.mem_of_getElem? (i := 183) rfl))) (mvT hZ (hw _ (List.mem_of_getElem? (i := 184) rfl))) (mvT hZ (hw _ (List.mem_of_getElem? (i := 185) rfl))) (mvT hZ (hw _ (List.mem_of_getElem? (i := 186) rfl))) (by decide) (backOf (W := 0) (rm24 l Z a0 hw [] p2 p4 T36.heap n0 Z36) hZ (hw _ (List.mem_of_getElem? (i := 186) rfl)) (hw _ (List.mem_of_getElem? (i := 185) rfl)) (by decide) (by decide)) (g := (mkF m 91 #[.val (.int p1), .val (.int p2), .val (.int p3), .val (.int p4), .val (.int p5), .val (.ref b1), .val (.ref b2_3_32), .val (.ref b2_3_36), .unset, .unset, .unset, .unset] [(.int p4), (.int p2)])) rfl (by rw [hml]; rfl) (argsL := [(.int p2), (.int p4)]) (rest := []) (lenOf pd_17 rfl) rfl (by show 2 * 0 + _ ≤ _; exact Nat.le_of_eq rfl) (hb hby at_91) (fun _ _ => ⟨rfl, e37, (by decide : 11 + 0 ≤ _), (by decide : 74 + 0 ≤ _)⟩)
        dsimp only [Pt.U, Pt.locs, Pt.cells, Pt.slots] at X40 l40 y40 z40 st40 hQ40
        subst l40 y40 z40
        obtain ⟨rfl, N40q, e40⟩ := hQ40
        have N40 := Fr.app N37 N40q
        have pre41 : ∀ t, Steps p.tables e below (T40.setTop (mkF m 94 #[.val (.int p1), .val (.int p2), .val (.int p3), .val (.int p4), .val (.int p5), .val (.ref b1), .val (.ref b2_3_32), .val (.ref b2_3_36), .unset, .unset, .unset, .unset] [(.int (sp24 p2 p4))])) t → Steps p.tables e below (s₁.setTop (entryFrame m #[(.int p1), (.int p2), (.int p3), (.int p4), (.int p5)] maxLocals)) t := by
          intro t k
          refine pre38 t ?_
          show Steps p.tables e below (T37.setTop (mkF m 86 #[.val (.int p1), .val (.int p2), .val (.int p3), .val (.int p4), .val (.int p5), .val (.ref b1), .val (.ref b2_3_32), .val (.ref b2_3_36), .unset, .unset, .unset, .unset] [(.int (sp24 p2 p3))])) _
          refine XS.ifNo X37.here hx rfl (hb hby at_86) rfl ((if0 _ _).trans (teq hc86_39).2) ?_
          refine XS.iloadN X37.here hx rfl (hb hby at_89) rfl ?_
          refine XS.iloadN X37.here hx rfl (hb hby at_90) rfl ?_
          show Steps p.tables e below (T37.setTop (mkF m 91 #[.val (.int p1), .val (.int p2), .val (.int p3), .val (.int p4), .val (.int p5), .val (.ref b1), .val (.ref b2_3_32), .val (.ref b2_3_36), .unset, .unset, .unset, .unset] [(.int p4), (.int p2)])) _
          refine st40 _ ?_
          exact k
        by_cases hc94_42 : (sp24 p2 p4) = (0 : Int32)
        · obtain ⟨_, _, ⟨T43, L43, k43, n43⟩, -, X43, ⟨Lc43, hQ43, l43, y43, z43⟩, st43⟩ := Jvm.LawKit.callS X40 hx (y := (⟨"com/example/kindgen/kindgen/core/document/RecordOrderMemberPinLaw", "pair", "(II)Z"⟩ : MethodName)) hown (mvT hZ (hw _ (List.mem_of_getElem? (i := 183) rfl))) (mvT hZ (hw _ (List.mem_of_getElem? (i := 184) rfl))) (mvT hZ (hw _ (List.mem_of_getElem? (i := 185) rfl))) (mvT hZ (hw _ (List.mem_of_getElem? (i := 186) rfl))) (by decide) (backOf (W := 0) (rm24 l Z a0 hw [] p3 p4 T36.heap n0 Z36) hZ (hw _ (List.mem_of_getElem? (i := 186) rfl)) (hw _ (List.mem_of_getElem? (i := 185) rfl)) (by decide) (by decide)) (g := (mkF m 99 #[.val (.int p1), .val (.int p2), .val (.int p3), .val (.int p4), .val (.int p5), .val (.ref b1), .val (.ref b2_3_32), .val (.ref b2_3_36), .unset, .unset, .unset, .unset] [(.int p4), (.int p3)])) rfl (by rw [hml]; rfl) (argsL := [(.int p3), (.int p4)]) (rest := []) (lenOf pd_17 rfl) rfl (by show 2 * 0 + _ ≤ _; exact Nat.le_of_eq rfl) (hb hby at_99) (fun _ _ => ⟨rfl, e40, (by decide : 11 + 0 ≤ _), (by decide : 74 + 0 ≤ _)⟩)
          dsimp only [Pt.U, Pt.locs, Pt.cells, Pt.slots] at X43 l43 y43 z43 st43 hQ43
          subst l43 y43 z43
          obtain ⟨rfl, N43q, e43⟩ := hQ43
          have N43 := Fr.app N40 N43q
          obtain ⟨_, _, ⟨T44, L44, k44, n44⟩, -, X44, ⟨Lc44, hQ44, l44, y44, z44⟩, st44⟩ := Jvm.LawKit.callS X43 hx (y := (⟨"com/example/kindgen/kindgen/core/document/RecordOrderMemberPinLaw", "pair", "(II)Z"⟩ : MethodName)) hown (mvT hZ (hw _ (List.mem_of_getElem? (i := 183) rfl))) (mvT hZ (hw _ (List.mem_of_getElem? (i := 184) rfl))) (mvT hZ (hw _ (List.mem_of_getElem? (i := 185) rfl))) (mvT hZ (hw _ (List.mem_of_getElem? (i := 186) rfl))) (by decide) (backOf (W := 0) (rm24 l Z a0 hw [] p1 p5 T36.heap n0 Z36) hZ (hw _ (List.mem_of_getElem? (i := 186) rfl)) (hw _ (List.mem_of_getElem? (i := 185) rfl)) (by decide) (by decide)) (g := (mkF m 115 #[.val (.int p1), .val (.int p2), .val (.int p3), .val (.int p4), .val (.int p5), .val (.ref b1), .val (.ref b2_3_32), .val (.ref b2_3_36), .val (.int (1 : Int32)), .unset, .unset, .unset] [(.int p5), (.int p1)])) rfl (by rw [hml]; rfl) (argsL := [(.int p1), (.int p5)]) (rest := []) (lenOf pd_17 rfl) rfl (by show 2 * 0 + _ ≤ _; exact Nat.le_of_eq rfl) (hb hby at_115) (fun _ _ => ⟨rfl, e43, (by decide : 11 + 0 ≤ _), (by decide : 74 + 0 ≤ _)⟩)
          dsimp only [Pt.U, Pt.locs, Pt.cells, Pt.slots] at X44 l44 y44 z44 st44 hQ44
          subst l44 y44 z44
          obtain ⟨rfl, N44q, e44⟩ := hQ44
          have N44 := Fr.app N43 N44q
          obtain ⟨cl_45, Ar_45, -, S_45, N_45, -, -⟩ := id c36_V_b2_3_32
          obtain ⟨cl_46, Ar_46, -, S_46, N_46, H_46, -⟩ := id c36_V_b2_3_32
          have hin_46 : ¬ ((0 : Int32) < 0 ∨ cl_46.slots.size ≤ ((0 : Int32)).toNatClampNeg) := inb_of S_46 ⟨by decide, by decide⟩
          have hat_46 : cl_46.slots[((0 : Int32)).toNatClampNeg]? = some (.int (1 : Int32)) := Has.at H_46 hin_46 rfl
          obtain ⟨cl_47, Ar_47, -, S_47, N_47, -, -⟩ := id t36_0
          obtain ⟨cl_48, Ar_48, -, S_48, N_48, H_48, -⟩ := id t36_0
          have hin_48 : ¬ ((0 : Int32) < 0 ∨ cl_48.slots.size ≤ ((0 : Int32)).toNatClampNeg) := inb_of S_48 ⟨by decide, by decide⟩
          have hat_48 : cl_48.slots[((0 : Int32)).toNatClampNeg]? = some (.int (1 : Int32)) := Has.at H_48 hin_48 rfl
          obtain ⟨fs, hr, hrun, hended, hW, hsame⟩ := X44.leave (v := some (.int (1 : Int32))) (fun h => by rw [Bd.returns] at h; cases h)
          refine ⟨_, _, pre41 _ ?_, hrun, hended, _, _, rfl, ?_, ⟨_, rfl⟩, hW, hsame.mono (by decide) (by decide)⟩
          · show Steps p.tables e below (T40.setTop (mkF m 94 #[.val (.int p1), .val (.int p2), .val (.int p3), .val (.int p4), .val (.int p5), .val (.ref b1), .val (.ref b2_3_32), .val (.ref b2_3_36), .unset, .unset, .unset, .unset] [(.int (sp24 p2 p4))])) _
            refine XS.ifNo X40.here hx rfl (hb hby at_94) rfl ((if0 _ _).trans (teq hc94_42).2) ?_
            refine XS.iloadN X40.here hx rfl (hb hby at_97) rfl ?_
            refine XS.iloadN X40.here hx rfl (hb hby at_98) rfl ?_
            show Steps p.tables e below (T40.setTop (mkF m 99 #[.val (.int p1), .val (.int p2), .val (.int p3), .val (.int p4), .val (.int p5), .val (.ref b1), .val (.ref b2_3_32), .val (.ref b2_3_36), .unset, .unset, .unset, .unset] [(.int p4), (.int p3)])) _
            refine st43 _ ?_
            show Steps p.tables e below (T43.setTop (mkF m 102 #[.val (.int p1), .val (.int p2), .val (.int p3), .val (.int p4), .val (.int p5), .val (.ref b1), .val (.ref b2_3_32), .val (.ref b2_3_36), .unset, .unset, .unset, .unset] [(.int (sp24 p3 p4))])) _
            refine XS.ifNo X43.here hx rfl (hb hby at_102) rfl ((if0 _ _).trans (feq (fun q => hO1 ((own_three p2 p3 p4).mpr ⟨hc86_39, hc94_42, q⟩))).1) ?_
            refine XS.iconst X43.here hx rfl (hb hby at_105) ?_
            refine XS.goto X43.here hx rfl (pc0 := 106) (pc' := 110) rfl (hb hby at_106) (by decide) (by decide) ?_
            refine XS.istore X43.here hx rfl (hb hby at_110) rfl (l' := #[.val (.int p1), .val (.int p2), .val (.int p3), .val (.int p4), .val (.int p5), .val (.ref b1), .val (.ref b2_3_32), .val (.ref b2_3_36), .val (.int (1 : Int32)), .unset, .unset, .unset]) rfl ?_
            show Steps p.tables e below (T43.setTop (mkF m 112 #[.val (.int p1), .val (.int p2), .val (.int p3), .val (.int p4), .val (.int p5), .val (.ref b1), .val (.ref b2_3_32), .val (.ref b2_3_36), .val (.int (1 : Int32)), .unset, .unset, .unset] [])) _
            refine XS.iloadN X43.here hx rfl (hb hby at_112) rfl ?_
            refine XS.iload X43.here hx rfl (hb hby at_113) rfl ?_
            show Steps p.tables e below (T43.setTop (mkF m 115 #[.val (.int p1), .val (.int p2), .val (.int p3), .val (.int p4), .val (.int p5), .val (.ref b1), .val (.ref b2_3_32), .val (.ref b2_3_36), .val (.int (1 : Int32)), .unset, .unset, .unset] [(.int p5), (.int p1)])) _
            refine st44 _ ?_
            refine XS.istore X44.here hx rfl (hb hby at_118) rfl (l' := #[.val (.int p1), .val (.int p2), .val (.int p3), .val (.int p4), .val (.int p5), .val (.ref b1), .val (.ref b2_3_32), .val (.ref b2_3_36), .val (.int (1 : Int32)), .val (.int (sp24 p1 p5)), .unset, .unset]) rfl ?_
            refine XS.iload X44.here hx rfl (hb hby at_120) rfl ?_
            show Steps p.tables e below (T44.setTop (mkF m 122 #[.val (.int p1), .val (.int p2), .val (.int p3), .val (.int p4), .val (.int p5), .val (.ref b1), .val (.ref b2_3_32), .val (.ref b2_3_36), .val (.int (1 : Int32)), .val (.int (sp24 p1 p5)), .unset, .unset] [(.int (1 : Int32))])) _
            refine XS.ifNo X44.here hx rfl (hb hby at_122) rfl ((if0 _ _).trans (feq (by decide : ¬ ((1 : Int32) = (0 : Int32)))).1) ?_
            refine XS.aload X44.here hx rfl (hb hby at_125) rfl rfl ?_
            show Steps p.tables e below (T44.setTop (mkF m 127 #[.val (.int p1), .val (.int p2), .val (.int p3), .val (.int p4), .val (.int p5), .val (.ref b1), .val (.ref b2_3_32), .val (.ref b2_3_36), .val (.int (1 : Int32)), .val (.int (sp24 p1 p5)), .unset, .unset] [(.ref b2_3_32)])) _
            refine X44.arraylength hx (by rw [e44]; exact Ar_45.1) (State.isArrayOf_alike hZ.alike Ar_45.2.1) (g := (mkF m 127 #[.val (.int p1), .val (.int p2), .val (.int p3), .val (.int p4), .val (.int p5), .val (.ref b1), .val (.ref b2_3_32), .val (.ref b2_3_36), .val (.int (1 : Int32)), .val (.int (sp24 p1 p5)), .unset, .unset] [(.ref b2_3_32)])) rfl rfl (hb hby at_127) _ ?_
            rw [len_of S_45 N_45]
            refine XS.iconst X44.here hx rfl (hb hby at_128) ?_
            show Steps p.tables e below (T44.setTop (mkF m 129 #[.val (.int p1), .val (.int p2), .val (.int p3), .val (.int p4), .val (.int p5), .val (.ref b1), .val (.ref b2_3_32), .val (.ref b2_3_36), .val (.int (1 : Int32)), .val (.int (sp24 p1 p5)), .unset, .unset] [(.int (1 : Int32)), (.int (1 : Int32))])) _
            refine XS.icmpNo X44.here hx rfl (hb hby at_129) rfl (teq (by decide : (1 : Int32) = (1 : Int32))).2 ?_
            refine XS.aload X44.here hx rfl (hb hby at_132) rfl rfl ?_
            refine XS.iconst X44.here hx rfl (hb hby at_134) ?_
            show Steps p.tables e below (T44.setTop (mkF m 135 #[.val (.int p1), .val (.int p2), .val (.int p3), .val (.int p4), .val (.int p5), .val (.ref b1), .val (.ref b2_3_32), .val (.ref b2_3_36), .val (.int (1 : Int32)), .val (.int (sp24 p1 p5)), .unset, .unset] [(.int (0 : Int32)), (.ref b2_3_32)])) _
            refine X44.iaload hx (j := (0 : Int32)) (v := (.int (1 : Int32))) (by rw [e44]; exact Ar_46.1) (State.isArrayOf_alike hZ.alike Ar_46.2.1) Ar_46.2.2 hin_46 hat_46 (g := (mkF m 135 #[.val (.int p1), .val (.int p2), .val (.int p3), .val (.int p4), .val (.int p5), .val (.ref b1), .val (.ref b2_3_32), .val (.ref b2_3_36), .val (.int (1 : Int32)), .val (.int (sp24 p1 p5)), .unset, .unset] [(.int (0 : Int32)), (.ref b2_3_32)])) rfl rfl (hb hby at_135) _ ?_
            refine XS.iconst X44.here hx rfl (hb hby at_136) ?_
            show Steps p.tables e below (T44.setTop (mkF m 137 #[.val (.int p1), .val (.int p2), .val (.int p3), .val (.int p4), .val (.int p5), .val (.ref b1), .val (.ref b2_3_32), .val (.ref b2_3_36), .val (.int (1 : Int32)), .val (.int (sp24 p1 p5)), .unset, .unset] [(.int (1 : Int32)), (.int (1 : Int32))])) _
            refine XS.icmpNo X44.here hx rfl (hb hby at_137) rfl (teq (by decide : (1 : Int32) = (1 : Int32))).2 ?_
            refine XS.iconst X44.here hx rfl (hb hby at_140) ?_
            refine XS.goto X44.here hx rfl (pc0 := 141) (pc' := 145) rfl (hb hby at_141) (by decide) (by decide) ?_
            refine XS.istore X44.here hx rfl (hb hby at_145) rfl (l' := #[.val (.int p1), .val (.int p2), .val (.int p3), .val (.int p4), .val (.int p5), .val (.ref b1), .val (.ref b2_3_32), .val (.ref b2_3_36), .val (.int (1 : Int32)), .val (.int (sp24 p1 p5)), .val (.int (1 : Int32)), .unset]) rfl ?_
            show Steps p.tables e below (T44.setTop (mkF m 147 #[.val (.int p1), .val (.int p2), .val (.int p3), .val (.int p4), .val (.int p5), .val (.ref b1), .val (.ref b2_3_32), .val (.ref b2_3_36), .val (.int (1 : Int32)), .val (.int (sp24 p1 p5)), .val (.int (1 : Int32)), .unset] [])) _
            refine XS.goto X44.here hx rfl (pc0 := 147) (pc' := 163) rfl (hb hby at_147) (by decide) (by decide) ?_
            refine XS.iload X44.here hx rfl (hb hby at_163) rfl ?_
            show Steps p.tables e below (T44.setTop (mkF m 165 #[.val (.int p1), .val (.int p2), .val (.int p3), .val (.int p4), .val (.int p5), .val (.ref b1), .val (.ref b2_3_32), .val (.ref b2_3_36), .val (.int (1 : Int32)), .val (.int (sp24 p1 p5)), .val (.int (1 : Int32)), .unset] [(.int (sp24 p1 p5))])) _
            refine XS.ifYes X44.here hx rfl (pc0 := 165) (pc' := 192) rfl (hb hby at_165) rfl ((if0 _ _).trans (teq (q1.mp hO0)).1) (by decide) (by decide) ?_
            refine XS.iload X44.here hx rfl (hb hby at_192) rfl ?_
            show Steps p.tables e below (T44.setTop (mkF m 194 #[.val (.int p1), .val (.int p2), .val (.int p3), .val (.int p4), .val (.int p5), .val (.ref b1), .val (.ref b2_3_32), .val (.ref b2_3_36), .val (.int (1 : Int32)), .val (.int (sp24 p1 p5)), .val (.int (1 : Int32)), .unset] [(.int (1 : Int32))])) _
            refine XS.ifNo X44.here hx rfl (hb hby at_194) rfl ((if0 _ _).trans (feq (by decide : ¬ ((1 : Int32) = (0 : Int32)))).1) ?_
            refine XS.aload X44.here hx rfl (hb hby at_197) rfl rfl ?_
            show Steps p.tables e below (T44.setTop (mkF m 199 #[.val (.int p1), .val (.int p2), .val (.int p3), .val (.int p4), .val (.int p5), .val (.ref b1), .val (.ref b2_3_32), .val (.ref b2_3_36), .val (.int (1 : Int32)), .val (.int (sp24 p1 p5)), .val (.int (1 : Int32)), .unset] [(.ref b2_3_36)])) _
            refine X44.arraylength hx (by rw [e44]; exact Ar_47.1) (State.isArrayOf_alike hZ.alike Ar_47.2.1) (g := (mkF m 199 #[.val (.int p1), .val (.int p2), .val (.int p3), .val (.int p4), .val (.int p5), .val (.ref b1), .val (.ref b2_3_32), .val (.ref b2_3_36), .val (.int (1 : Int32)), .val (.int (sp24 p1 p5)), .val (.int (1 : Int32)), .unset] [(.ref b2_3_36)])) rfl rfl (hb hby at_199) _ ?_
            rw [len_of S_47 N_47]
            refine XS.iconst X44.here hx rfl (hb hby at_200) ?_
            show Steps p.tables e below (T44.setTop (mkF m 201 #[.val (.int p1), .val (.int p2), .val (.int p3), .val (.int p4), .val (.int p5), .val (.ref b1), .val (.ref b2_3_32), .val (.ref b2_3_36), .val (.int (1 : Int32)), .val (.int (sp24 p1 p5)), .val (.int (1 : Int32)), .unset] [(.int (1 : Int32)), (.int (1 : Int32))])) _
            refine XS.icmpNo X44.here hx rfl (hb hby at_201) rfl (teq (by decide : (1 : Int32) = (1 : Int32))).2 ?_
            refine XS.aload X44.here hx rfl (hb hby at_204) rfl rfl ?_
            refine XS.iconst X44.here hx rfl (hb hby at_206) ?_
            show Steps p.tables e below (T44.setTop (mkF m 207 #[.val (.int p1), .val (.int p2), .val (.int p3), .val (.int p4), .val (.int p5), .val (.ref b1), .val (.ref b2_3_32), .val (.ref b2_3_36), .val (.int (1 : Int32)), .val (.int (sp24 p1 p5)), .val (.int (1 : Int32)), .unset] [(.int (0 : Int32)), (.ref b2_3_36)])) _
            refine X44.iaload hx (j := (0 : Int32)) (v := (.int (1 : Int32))) (by rw [e44]; exact Ar_48.1) (State.isArrayOf_alike hZ.alike Ar_48.2.1) Ar_48.2.2 hin_48 hat_48 (g := (mkF m 207 #[.val (.int p1), .val (.int p2), .val (.int p3), .val (.int p4), .val (.int p5), .val (.ref b1), .val (.ref b2_3_32), .val (.ref b2_3_36), .val (.int (1 : Int32)), .val (.int (sp24 p1 p5)), .val (.int (1 : Int32)), .unset] [(.int (0 : Int32)), (.ref b2_3_36)])) rfl rfl (hb hby at_207) _ ?_
            refine XS.iconst X44.here hx rfl (hb hby at_208) ?_
            show Steps p.tables e below (T44.setTop (mkF m 209 #[.val (.int p1), .val (.int p2), .val (.int p3), .val (.int p4), .val (.int p5), .val (.ref b1), .val (.ref b2_3_32), .val (.ref b2_3_36), .val (.int (1 : Int32)), .val (.int (sp24 p1 p5)), .val (.int (1 : Int32)), .unset] [(.int (1 : Int32)), (.int (1 : Int32))])) _
            refine XS.icmpNo X44.here hx rfl (hb hby at_209) rfl (teq (by decide : (1 : Int32) = (1 : Int32))).2 ?_
            refine XS.iconst X44.here hx rfl (hb hby at_212) ?_
            refine XS.goto X44.here hx rfl (pc0 := 213) (pc' := 217) rfl (hb hby at_213) (by decide) (by decide) ?_
            refine XS.istore X44.here hx rfl (hb hby at_217) rfl (l' := #[.val (.int p1), .val (.int p2), .val (.int p3), .val (.int p4), .val (.int p5), .val (.ref b1), .val (.ref b2_3_32), .val (.ref b2_3_36), .val (.int (1 : Int32)), .val (.int (sp24 p1 p5)), .val (.int (1 : Int32)), .val (.int (1 : Int32))]) rfl ?_
            show Steps p.tables e below (T44.setTop (mkF m 219 #[.val (.int p1), .val (.int p2), .val (.int p3), .val (.int p4), .val (.int p5), .val (.ref b1), .val (.ref b2_3_32), .val (.ref b2_3_36), .val (.int (1 : Int32)), .val (.int (sp24 p1 p5)), .val (.int (1 : Int32)), .val (.int (1 : Int32))] [])) _
            refine XS.goto X44.here hx rfl (pc0 := 219) (pc' := 235) rfl (hb hby at_219) (by decide) (by decide) ?_
            refine XS.iload X44.here hx rfl (hb hby at_235) rfl ?_
            show Steps p.tables e below (T44.setTop (mkF m 237 #[.val (.int p1), .val (.int p2), .val (.int p3), .val (.int p4), .val (.int p5), .val (.ref b1), .val (.ref b2_3_32), .val (.ref b2_3_36), .val (.int (1 : Int32)), .val (.int (sp24 p1 p5)), .val (.int (1 : Int32)), .val (.int (1 : Int32))] [(.int (1 : Int32))])) _
            refine XS.ifNo X44.here hx rfl (hb hby at_237) rfl ((if0 _ _).trans (feq (by decide : ¬ ((1 : Int32) = (0 : Int32)))).1) ?_
            refine XS.iload X44.here hx rfl (hb hby at_240) rfl ?_
            show Steps p.tables e below (T44.setTop (mkF m 242 #[.val (.int p1), .val (.int p2), .val (.int p3), .val (.int p4), .val (.int p5), .val (.ref b1), .val (.ref b2_3_32), .val (.ref b2_3_36), .val (.int (1 : Int32)), .val (.int (sp24 p1 p5)), .val (.int (1 : Int32)), .val (.int (1 : Int32))] [(.int (1 : Int32))])) _
            refine XS.ifNo X44.here hx rfl (hb hby at_242) rfl ((if0 _ _).trans (feq (by decide : ¬ ((1 : Int32) = (0 : Int32)))).1) ?_
            refine XS.iconst X44.here hx rfl (hb hby at_245) ?_
            refine XS.goto X44.here hx rfl (pc0 := 246) (pc' := 250) rfl (hb hby at_246) (by decide) (by decide) ?_
            show Steps p.tables e below (T44.setTop (mkF m 250 #[.val (.int p1), .val (.int p2), .val (.int p3), .val (.int p4), .val (.int p5), .val (.ref b1), .val (.ref b2_3_32), .val (.ref b2_3_36), .val (.int (1 : Int32)), .val (.int (sp24 p1 p5)), .val (.int (1 : Int32)), .val (.int (1 : Int32))] [(.int (1 : Int32))])) _
            exact retN X44 hx (t := .boolean) Bd.returns (by simp) (hb hby at_250) hr
          · show Q0 Z p1 p2 p3 p4 p5 apr h0 n0 _ T44.heap _
            rw [e44]
            exact ⟨rfl, N44⟩
        · obtain ⟨_, _, ⟨T49, L49, k49, n49⟩, -, X49, ⟨Lc49, hQ49, l49, y49, z49⟩, st49⟩ := Jvm.LawKit.callS X40 hx (y := (⟨"com/example/kindgen/kindgen/core/document/RecordOrderMemberPinLaw", "pair", "(II)Z"⟩ : MethodName)) hown (mvT hZ (hw _ (List.mem_of_getElem? (i := 183) rfl))) (mvT hZ (hw _ (List.mem_of_getElem? (i := 184) rfl))) (mvT hZ (hw _ (List.mem_of_getElem? (i := 185) rfl))) (mvT hZ (hw _ (List.mem_of_getElem? (i := 186) rfl))) (by decide) (backOf (W := 0) (rm24 l Z a0 hw [] p1 p5 T36.heap n0 Z36) hZ (hw _ (List.mem_of_getElem? (i := 186) rfl)) (hw _ (List.mem_of_getElem? (i := 185) rfl)) (by decide) (by decide)) (g := (mkF m 115 #[.val (.int p1), .val (.int p2), .val (.int p3), .val (.int p4), .val (.int p5), .val (.ref b1), .val (.ref b2_3_32), .val (.ref b2_3_36), .val (.int (1 : Int32)), .unset, .unset, .unset] [(.int p5), (.int p1)])) rfl (by rw [hml]; rfl) (argsL := [(.int p1), (.int p5)]) (rest := []) (lenOf pd_17 rfl) rfl (by show 2 * 0 + _ ≤ _; exact Nat.le_of_eq rfl) (hb hby at_115) (fun _ _ => ⟨rfl, e40, (by decide : 11 + 0 ≤ _), (by decide : 74 + 0 ≤ _)⟩)
          dsimp only [Pt.U, Pt.locs, Pt.cells, Pt.slots] at X49 l49 y49 z49 st49 hQ49
          subst l49 y49 z49
          obtain ⟨rfl, N49q, e49⟩ := hQ49
          have N49 := Fr.app N40 N49q
          obtain ⟨cl_50, Ar_50, -, S_50, N_50, -, -⟩ := id c36_V_b2_3_32
          obtain ⟨cl_51, Ar_51, -, S_51, N_51, H_51, -⟩ := id c36_V_b2_3_32
          have hin_51 : ¬ ((0 : Int32) < 0 ∨ cl_51.slots.size ≤ ((0 : Int32)).toNatClampNeg) := inb_of S_51 ⟨by decide, by decide⟩
          have hat_51 : cl_51.slots[((0 : Int32)).toNatClampNeg]? = some (.int (1 : Int32)) := Has.at H_51 hin_51 rfl
          obtain ⟨cl_52, Ar_52, -, S_52, N_52, -, -⟩ := id t36_0
          obtain ⟨cl_53, Ar_53, -, S_53, N_53, H_53, -⟩ := id t36_0
          have hin_53 : ¬ ((0 : Int32) < 0 ∨ cl_53.slots.size ≤ ((0 : Int32)).toNatClampNeg) := inb_of S_53 ⟨by decide, by decide⟩
          have hat_53 : cl_53.slots[((0 : Int32)).toNatClampNeg]? = some (.int (1 : Int32)) := Has.at H_53 hin_53 rfl
          obtain ⟨fs, hr, hrun, hended, hW, hsame⟩ := X49.leave (v := some (.int (1 : Int32))) (fun h => by rw [Bd.returns] at h; cases h)
          refine ⟨_, _, pre41 _ ?_, hrun, hended, _, _, rfl, ?_, ⟨_, rfl⟩, hW, hsame.mono (by decide) (by decide)⟩
          · show Steps p.tables e below (T40.setTop (mkF m 94 #[.val (.int p1), .val (.int p2), .val (.int p3), .val (.int p4), .val (.int p5), .val (.ref b1), .val (.ref b2_3_32), .val (.ref b2_3_36), .unset, .unset, .unset, .unset] [(.int (sp24 p2 p4))])) _
            refine XS.ifYes X40.here hx rfl (pc0 := 94) (pc' := 105) rfl (hb hby at_94) rfl ((if0 _ _).trans (feq hc94_42).2) (by decide) (by decide) ?_
            refine XS.iconst X40.here hx rfl (hb hby at_105) ?_
            refine XS.goto X40.here hx rfl (pc0 := 106) (pc' := 110) rfl (hb hby at_106) (by decide) (by decide) ?_
            refine XS.istore X40.here hx rfl (hb hby at_110) rfl (l' := #[.val (.int p1), .val (.int p2), .val (.int p3), .val (.int p4), .val (.int p5), .val (.ref b1), .val (.ref b2_3_32), .val (.ref b2_3_36), .val (.int (1 : Int32)), .unset, .unset, .unset]) rfl ?_
            show Steps p.tables e below (T40.setTop (mkF m 112 #[.val (.int p1), .val (.int p2), .val (.int p3), .val (.int p4), .val (.int p5), .val (.ref b1), .val (.ref b2_3_32), .val (.ref b2_3_36), .val (.int (1 : Int32)), .unset, .unset, .unset] [])) _
            refine XS.iloadN X40.here hx rfl (hb hby at_112) rfl ?_
            refine XS.iload X40.here hx rfl (hb hby at_113) rfl ?_
            show Steps p.tables e below (T40.setTop (mkF m 115 #[.val (.int p1), .val (.int p2), .val (.int p3), .val (.int p4), .val (.int p5), .val (.ref b1), .val (.ref b2_3_32), .val (.ref b2_3_36), .val (.int (1 : Int32)), .unset, .unset, .unset] [(.int p5), (.int p1)])) _
            refine st49 _ ?_
            refine XS.istore X49.here hx rfl (hb hby at_118) rfl (l' := #[.val (.int p1), .val (.int p2), .val (.int p3), .val (.int p4), .val (.int p5), .val (.ref b1), .val (.ref b2_3_32), .val (.ref b2_3_36), .val (.int (1 : Int32)), .val (.int (sp24 p1 p5)), .unset, .unset]) rfl ?_
            refine XS.iload X49.here hx rfl (hb hby at_120) rfl ?_
            show Steps p.tables e below (T49.setTop (mkF m 122 #[.val (.int p1), .val (.int p2), .val (.int p3), .val (.int p4), .val (.int p5), .val (.ref b1), .val (.ref b2_3_32), .val (.ref b2_3_36), .val (.int (1 : Int32)), .val (.int (sp24 p1 p5)), .unset, .unset] [(.int (1 : Int32))])) _
            refine XS.ifNo X49.here hx rfl (hb hby at_122) rfl ((if0 _ _).trans (feq (by decide : ¬ ((1 : Int32) = (0 : Int32)))).1) ?_
            refine XS.aload X49.here hx rfl (hb hby at_125) rfl rfl ?_
            show Steps p.tables e below (T49.setTop (mkF m 127 #[.val (.int p1), .val (.int p2), .val (.int p3), .val (.int p4), .val (.int p5), .val (.ref b1), .val (.ref b2_3_32), .val (.ref b2_3_36), .val (.int (1 : Int32)), .val (.int (sp24 p1 p5)), .unset, .unset] [(.ref b2_3_32)])) _
            refine X49.arraylength hx (by rw [e49]; exact Ar_50.1) (State.isArrayOf_alike hZ.alike Ar_50.2.1) (g := (mkF m 127 #[.val (.int p1), .val (.int p2), .val (.int p3), .val (.int p4), .val (.int p5), .val (.ref b1), .val (.ref b2_3_32), .val (.ref b2_3_36), .val (.int (1 : Int32)), .val (.int (sp24 p1 p5)), .unset, .unset] [(.ref b2_3_32)])) rfl rfl (hb hby at_127) _ ?_
            rw [len_of S_50 N_50]
            refine XS.iconst X49.here hx rfl (hb hby at_128) ?_
            show Steps p.tables e below (T49.setTop (mkF m 129 #[.val (.int p1), .val (.int p2), .val (.int p3), .val (.int p4), .val (.int p5), .val (.ref b1), .val (.ref b2_3_32), .val (.ref b2_3_36), .val (.int (1 : Int32)), .val (.int (sp24 p1 p5)), .unset, .unset] [(.int (1 : Int32)), (.int (1 : Int32))])) _
            refine XS.icmpNo X49.here hx rfl (hb hby at_129) rfl (teq (by decide : (1 : Int32) = (1 : Int32))).2 ?_
            refine XS.aload X49.here hx rfl (hb hby at_132) rfl rfl ?_
            refine XS.iconst X49.here hx rfl (hb hby at_134) ?_
            show Steps p.tables e below (T49.setTop (mkF m 135 #[.val (.int p1), .val (.int p2), .val (.int p3), .val (.int p4), .val (.int p5), .val (.ref b1), .val (.ref b2_3_32), .val (.ref b2_3_36), .val (.int (1 : Int32)), .val (.int (sp24 p1 p5)), .unset, .unset] [(.int (0 : Int32)), (.ref b2_3_32)])) _
            refine X49.iaload hx (j := (0 : Int32)) (v := (.int (1 : Int32))) (by rw [e49]; exact Ar_51.1) (State.isArrayOf_alike hZ.alike Ar_51.2.1) Ar_51.2.2 hin_51 hat_51 (g := (mkF m 135 #[.val (.int p1), .val (.int p2), .val (.int p3), .val (.int p4), .val (.int p5), .val (.ref b1), .val (.ref b2_3_32), .val (.ref b2_3_36), .val (.int (1 : Int32)), .val (.int (sp24 p1 p5)), .unset, .unset] [(.int (0 : Int32)), (.ref b2_3_32)])) rfl rfl (hb hby at_135) _ ?_
            refine XS.iconst X49.here hx rfl (hb hby at_136) ?_
            show Steps p.tables e below (T49.setTop (mkF m 137 #[.val (.int p1), .val (.int p2), .val (.int p3), .val (.int p4), .val (.int p5), .val (.ref b1), .val (.ref b2_3_32), .val (.ref b2_3_36), .val (.int (1 : Int32)), .val (.int (sp24 p1 p5)), .unset, .unset] [(.int (1 : Int32)), (.int (1 : Int32))])) _
            refine XS.icmpNo X49.here hx rfl (hb hby at_137) rfl (teq (by decide : (1 : Int32) = (1 : Int32))).2 ?_
            refine XS.iconst X49.here hx rfl (hb hby at_140) ?_
            refine XS.goto X49.here hx rfl (pc0 := 141) (pc' := 145) rfl (hb hby at_141) (by decide) (by decide) ?_
            refine XS.istore X49.here hx rfl (hb hby at_145) rfl (l' := #[.val (.int p1), .val (.int p2), .val (.int p3), .val (.int p4), .val (.int p5), .val (.ref b1), .val (.ref b2_3_32), .val (.ref b2_3_36), .val (.int (1 : Int32)), .val (.int (sp24 p1 p5)), .val (.int (1 : Int32)), .unset]) rfl ?_
            show Steps p.tables e below (T49.setTop (mkF m 147 #[.val (.int p1), .val (.int p2), .val (.int p3), .val (.int p4), .val (.int p5), .val (.ref b1), .val (.ref b2_3_32), .val (.ref b2_3_36), .val (.int (1 : Int32)), .val (.int (sp24 p1 p5)), .val (.int (1 : Int32)), .unset] [])) _
            refine XS.goto X49.here hx rfl (pc0 := 147) (pc' := 163) rfl (hb hby at_147) (by decide) (by decide) ?_
            refine XS.iload X49.here hx rfl (hb hby at_163) rfl ?_
            show Steps p.tables e below (T49.setTop (mkF m 165 #[.val (.int p1), .val (.int p2), .val (.int p3), .val (.int p4), .val (.int p5), .val (.ref b1), .val (.ref b2_3_32), .val (.ref b2_3_36), .val (.int (1 : Int32)), .val (.int (sp24 p1 p5)), .val (.int (1 : Int32)), .unset] [(.int (sp24 p1 p5))])) _
            refine XS.ifYes X49.here hx rfl (pc0 := 165) (pc' := 192) rfl (hb hby at_165) rfl ((if0 _ _).trans (teq (q1.mp hO0)).1) (by decide) (by decide) ?_
            refine XS.iload X49.here hx rfl (hb hby at_192) rfl ?_
            show Steps p.tables e below (T49.setTop (mkF m 194 #[.val (.int p1), .val (.int p2), .val (.int p3), .val (.int p4), .val (.int p5), .val (.ref b1), .val (.ref b2_3_32), .val (.ref b2_3_36), .val (.int (1 : Int32)), .val (.int (sp24 p1 p5)), .val (.int (1 : Int32)), .unset] [(.int (1 : Int32))])) _
            refine XS.ifNo X49.here hx rfl (hb hby at_194) rfl ((if0 _ _).trans (feq (by decide : ¬ ((1 : Int32) = (0 : Int32)))).1) ?_
            refine XS.aload X49.here hx rfl (hb hby at_197) rfl rfl ?_
            show Steps p.tables e below (T49.setTop (mkF m 199 #[.val (.int p1), .val (.int p2), .val (.int p3), .val (.int p4), .val (.int p5), .val (.ref b1), .val (.ref b2_3_32), .val (.ref b2_3_36), .val (.int (1 : Int32)), .val (.int (sp24 p1 p5)), .val (.int (1 : Int32)), .unset] [(.ref b2_3_36)])) _
            refine X49.arraylength hx (by rw [e49]; exact Ar_52.1) (State.isArrayOf_alike hZ.alike Ar_52.2.1) (g := (mkF m 199 #[.val (.int p1), .val (.int p2), .val (.int p3), .val (.int p4), .val (.int p5), .val (.ref b1), .val (.ref b2_3_32), .val (.ref b2_3_36), .val (.int (1 : Int32)), .val (.int (sp24 p1 p5)), .val (.int (1 : Int32)), .unset] [(.ref b2_3_36)])) rfl rfl (hb hby at_199) _ ?_
            rw [len_of S_52 N_52]
            refine XS.iconst X49.here hx rfl (hb hby at_200) ?_
            show Steps p.tables e below (T49.setTop (mkF m 201 #[.val (.int p1), .val (.int p2), .val (.int p3), .val (.int p4), .val (.int p5), .val (.ref b1), .val (.ref b2_3_32), .val (.ref b2_3_36), .val (.int (1 : Int32)), .val (.int (sp24 p1 p5)), .val (.int (1 : Int32)), .unset] [(.int (1 : Int32)), (.int (1 : Int32))])) _
            refine XS.icmpNo X49.here hx rfl (hb hby at_201) rfl (teq (by decide : (1 : Int32) = (1 : Int32))).2 ?_
            refine XS.aload X49.here hx rfl (hb hby at_204) rfl rfl ?_
            refine XS.iconst X49.here hx rfl (hb hby at_206) ?_
            show Steps p.tables e below (T49.setTop (mkF m 207 #[.val (.int p1), .val (.int p2), .val (.int p3), .val (.int p4), .val (.int p5), .val (.ref b1), .val (.ref b2_3_32), .val (.ref b2_3_36), .val (.int (1 : Int32)), .val (.int (sp24 p1 p5)), .val (.int (1 : Int32)), .unset] [(.int (0 : Int32)), (.ref b2_3_36)])) _
            refine X49.iaload hx (j := (0 : Int32)) (v := (.int (1 : Int32))) (by rw [e49]; exact Ar_53.1) (State.isArrayOf_alike hZ.alike Ar_53.2.1) Ar_53.2.2 hin_53 hat_53 (g := (mkF m 207 #[.val (.int p1), .val (.int p2), .val (.int p3), .val (.int p4), .val (.int p5), .val (.ref b1), .val (.ref b2_3_32), .val (.ref b2_3_36), .val (.int (1 : Int32)), .val (.int (sp24 p1 p5)), .val (.int (1 : Int32)), .unset] [(.int (0 : Int32)), (.ref b2_3_36)])) rfl rfl (hb hby at_207) _ ?_
            refine XS.iconst X49.here hx rfl (hb hby at_208) ?_
            show Steps p.tables e below (T49.setTop (mkF m 209 #[.val (.int p1), .val (.int p2), .val (.int p3), .val (.int p4), .val (.int p5), .val (.ref b1), .val (.ref b2_3_32), .val (.ref b2_3_36), .val (.int (1 : Int32)), .val (.int (sp24 p1 p5)), .val (.int (1 : Int32)), .unset] [(.int (1 : Int32)), (.int (1 : Int32))])) _
            refine XS.icmpNo X49.here hx rfl (hb hby at_209) rfl (teq (by decide : (1 : Int32) = (1 : Int32))).2 ?_
            refine XS.iconst X49.here hx rfl (hb hby at_212) ?_
            refine XS.goto X49.here hx rfl (pc0 := 213) (pc' := 217) rfl (hb hby at_213) (by decide) (by decide) ?_
            refine XS.istore X49.here hx rfl (hb hby at_217) rfl (l' := #[.val (.int p1), .val (.int p2), .val (.int p3), .val (.int p4), .val (.int p5), .val (.ref b1), .val (.ref b2_3_32), .val (.ref b2_3_36), .val (.int (1 : Int32)), .val (.int (sp24 p1 p5)), .val (.int (1 : Int32)), .val (.int (1 : Int32))]) rfl ?_
            show Steps p.tables e below (T49.setTop (mkF m 219 #[.val (.int p1), .val (.int p2), .val (.int p3), .val (.int p4), .val (.int p5), .val (.ref b1), .val (.ref b2_3_32), .val (.ref b2_3_36), .val (.int (1 : Int32)), .val (.int (sp24 p1 p5)), .val (.int (1 : Int32)), .val (.int (1 : Int32))] [])) _
            refine XS.goto X49.here hx rfl (pc0 := 219) (pc' := 235) rfl (hb hby at_219) (by decide) (by decide) ?_
            refine XS.iload X49.here hx rfl (hb hby at_235) rfl ?_
            show Steps p.tables e below (T49.setTop (mkF m 237 #[.val (.int p1), .val (.int p2), .val (.int p3), .val (.int p4), .val (.int p5), .val (.ref b1), .val (.ref b2_3_32), .val (.ref b2_3_36), .val (.int (1 : Int32)), .val (.int (sp24 p1 p5)), .val (.int (1 : Int32)), .val (.int (1 : Int32))] [(.int (1 : Int32))])) _
            refine XS.ifNo X49.here hx rfl (hb hby at_237) rfl ((if0 _ _).trans (feq (by decide : ¬ ((1 : Int32) = (0 : Int32)))).1) ?_
            refine XS.iload X49.here hx rfl (hb hby at_240) rfl ?_
            show Steps p.tables e below (T49.setTop (mkF m 242 #[.val (.int p1), .val (.int p2), .val (.int p3), .val (.int p4), .val (.int p5), .val (.ref b1), .val (.ref b2_3_32), .val (.ref b2_3_36), .val (.int (1 : Int32)), .val (.int (sp24 p1 p5)), .val (.int (1 : Int32)), .val (.int (1 : Int32))] [(.int (1 : Int32))])) _
            refine XS.ifNo X49.here hx rfl (hb hby at_242) rfl ((if0 _ _).trans (feq (by decide : ¬ ((1 : Int32) = (0 : Int32)))).1) ?_
            refine XS.iconst X49.here hx rfl (hb hby at_245) ?_
            refine XS.goto X49.here hx rfl (pc0 := 246) (pc' := 250) rfl (hb hby at_246) (by decide) (by decide) ?_
            show Steps p.tables e below (T49.setTop (mkF m 250 #[.val (.int p1), .val (.int p2), .val (.int p3), .val (.int p4), .val (.int p5), .val (.ref b1), .val (.ref b2_3_32), .val (.ref b2_3_36), .val (.int (1 : Int32)), .val (.int (sp24 p1 p5)), .val (.int (1 : Int32)), .val (.int (1 : Int32))] [(.int (1 : Int32))])) _
            exact retN X49 hx (t := .boolean) Bd.returns (by simp) (hb hby at_250) hr
          · show Q0 Z p1 p2 p3 p4 p5 apr h0 n0 _ T49.heap _
            rw [e49]
            exact ⟨rfl, N49⟩
      · obtain ⟨_, _, ⟨T54, L54, k54, n54⟩, -, X54, ⟨Lc54, hQ54, l54, y54, z54⟩, st54⟩ := Jvm.LawKit.callS X37 hx (y := (⟨"com/example/kindgen/kindgen/core/document/RecordOrderMemberPinLaw", "pair", "(II)Z"⟩ : MethodName)) hown (mvT hZ (hw _ (List.mem_of_getElem? (i := 183) rfl))) (mvT hZ (hw _ (List.mem_of_getElem? (i := 184) rfl))) (mvT hZ (hw _ (List.mem_of_getElem? (i := 185) rfl))) (mvT hZ (hw _ (List.mem_of_getElem? (i := 186) rfl))) (by decide) (backOf (W := 0) (rm24 l Z a0 hw [] p1 p5 T36.heap n0 Z36) hZ (hw _ (List.mem_of_getElem? (i := 186) rfl)) (hw _ (List.mem_of_getElem? (i := 185) rfl)) (by decide) (by decide)) (g := (mkF m 115 #[.val (.int p1), .val (.int p2), .val (.int p3), .val (.int p4), .val (.int p5), .val (.ref b1), .val (.ref b2_3_32), .val (.ref b2_3_36), .val (.int (1 : Int32)), .unset, .unset, .unset] [(.int p5), (.int p1)])) rfl (by rw [hml]; rfl) (argsL := [(.int p1), (.int p5)]) (rest := []) (lenOf pd_17 rfl) rfl (by show 2 * 0 + _ ≤ _; exact Nat.le_of_eq rfl) (hb hby at_115) (fun _ _ => ⟨rfl, e37, (by decide : 11 + 0 ≤ _), (by decide : 74 + 0 ≤ _)⟩)
        dsimp only [Pt.U, Pt.locs, Pt.cells, Pt.slots] at X54 l54 y54 z54 st54 hQ54
        subst l54 y54 z54
        obtain ⟨rfl, N54q, e54⟩ := hQ54
        have N54 := Fr.app N37 N54q
        obtain ⟨cl_55, Ar_55, -, S_55, N_55, -, -⟩ := id c36_V_b2_3_32
        obtain ⟨cl_56, Ar_56, -, S_56, N_56, H_56, -⟩ := id c36_V_b2_3_32
        have hin_56 : ¬ ((0 : Int32) < 0 ∨ cl_56.slots.size ≤ ((0 : Int32)).toNatClampNeg) := inb_of S_56 ⟨by decide, by decide⟩
        have hat_56 : cl_56.slots[((0 : Int32)).toNatClampNeg]? = some (.int (1 : Int32)) := Has.at H_56 hin_56 rfl
        obtain ⟨cl_57, Ar_57, -, S_57, N_57, -, -⟩ := id t36_0
        obtain ⟨cl_58, Ar_58, -, S_58, N_58, H_58, -⟩ := id t36_0
        have hin_58 : ¬ ((0 : Int32) < 0 ∨ cl_58.slots.size ≤ ((0 : Int32)).toNatClampNeg) := inb_of S_58 ⟨by decide, by decide⟩
        have hat_58 : cl_58.slots[((0 : Int32)).toNatClampNeg]? = some (.int (1 : Int32)) := Has.at H_58 hin_58 rfl
        obtain ⟨fs, hr, hrun, hended, hW, hsame⟩ := X54.leave (v := some (.int (1 : Int32))) (fun h => by rw [Bd.returns] at h; cases h)
        refine ⟨_, _, pre38 _ ?_, hrun, hended, _, _, rfl, ?_, ⟨_, rfl⟩, hW, hsame.mono (by decide) (by decide)⟩
        · show Steps p.tables e below (T37.setTop (mkF m 86 #[.val (.int p1), .val (.int p2), .val (.int p3), .val (.int p4), .val (.int p5), .val (.ref b1), .val (.ref b2_3_32), .val (.ref b2_3_36), .unset, .unset, .unset, .unset] [(.int (sp24 p2 p3))])) _
          refine XS.ifYes X37.here hx rfl (pc0 := 86) (pc' := 105) rfl (hb hby at_86) rfl ((if0 _ _).trans (feq hc86_39).2) (by decide) (by decide) ?_
          refine XS.iconst X37.here hx rfl (hb hby at_105) ?_
          refine XS.goto X37.here hx rfl (pc0 := 106) (pc' := 110) rfl (hb hby at_106) (by decide) (by decide) ?_
          refine XS.istore X37.here hx rfl (hb hby at_110) rfl (l' := #[.val (.int p1), .val (.int p2), .val (.int p3), .val (.int p4), .val (.int p5), .val (.ref b1), .val (.ref b2_3_32), .val (.ref b2_3_36), .val (.int (1 : Int32)), .unset, .unset, .unset]) rfl ?_
          show Steps p.tables e below (T37.setTop (mkF m 112 #[.val (.int p1), .val (.int p2), .val (.int p3), .val (.int p4), .val (.int p5), .val (.ref b1), .val (.ref b2_3_32), .val (.ref b2_3_36), .val (.int (1 : Int32)), .unset, .unset, .unset] [])) _
          refine XS.iloadN X37.here hx rfl (hb hby at_112) rfl ?_
          refine XS.iload X37.here hx rfl (hb hby at_113) rfl ?_
          show Steps p.tables e below (T37.setTop (mkF m 115 #[.val (.int p1), .val (.int p2), .val (.int p3), .val (.int p4), .val (.int p5), .val (.ref b1), .val (.ref b2_3_32), .val (.ref b2_3_36), .val (.int (1 : Int32)), .unset, .unset, .unset] [(.int p5), (.int p1)])) _
          refine st54 _ ?_
          refine XS.istore X54.here hx rfl (hb hby at_118) rfl (l' := #[.val (.int p1), .val (.int p2), .val (.int p3), .val (.int p4), .val (.int p5), .val (.ref b1), .val (.ref b2_3_32), .val (.ref b2_3_36), .val (.int (1 : Int32)), .val (.int (sp24 p1 p5)), .unset, .unset]) rfl ?_
          refine XS.iload X54.here hx rfl (hb hby at_120) rfl ?_
          show Steps p.tables e below (T54.setTop (mkF m 122 #[.val (.int p1), .val (.int p2), .val (.int p3), .val (.int p4), .val (.int p5), .val (.ref b1), .val (.ref b2_3_32), .val (.ref b2_3_36), .val (.int (1 : Int32)), .val (.int (sp24 p1 p5)), .unset, .unset] [(.int (1 : Int32))])) _
          refine XS.ifNo X54.here hx rfl (hb hby at_122) rfl ((if0 _ _).trans (feq (by decide : ¬ ((1 : Int32) = (0 : Int32)))).1) ?_
          refine XS.aload X54.here hx rfl (hb hby at_125) rfl rfl ?_
          show Steps p.tables e below (T54.setTop (mkF m 127 #[.val (.int p1), .val (.int p2), .val (.int p3), .val (.int p4), .val (.int p5), .val (.ref b1), .val (.ref b2_3_32), .val (.ref b2_3_36), .val (.int (1 : Int32)), .val (.int (sp24 p1 p5)), .unset, .unset] [(.ref b2_3_32)])) _
          refine X54.arraylength hx (by rw [e54]; exact Ar_55.1) (State.isArrayOf_alike hZ.alike Ar_55.2.1) (g := (mkF m 127 #[.val (.int p1), .val (.int p2), .val (.int p3), .val (.int p4), .val (.int p5), .val (.ref b1), .val (.ref b2_3_32), .val (.ref b2_3_36), .val (.int (1 : Int32)), .val (.int (sp24 p1 p5)), .unset, .unset] [(.ref b2_3_32)])) rfl rfl (hb hby at_127) _ ?_
          rw [len_of S_55 N_55]
          refine XS.iconst X54.here hx rfl (hb hby at_128) ?_
          show Steps p.tables e below (T54.setTop (mkF m 129 #[.val (.int p1), .val (.int p2), .val (.int p3), .val (.int p4), .val (.int p5), .val (.ref b1), .val (.ref b2_3_32), .val (.ref b2_3_36), .val (.int (1 : Int32)), .val (.int (sp24 p1 p5)), .unset, .unset] [(.int (1 : Int32)), (.int (1 : Int32))])) _
          refine XS.icmpNo X54.here hx rfl (hb hby at_129) rfl (teq (by decide : (1 : Int32) = (1 : Int32))).2 ?_
          refine XS.aload X54.here hx rfl (hb hby at_132) rfl rfl ?_
          refine XS.iconst X54.here hx rfl (hb hby at_134) ?_
          show Steps p.tables e below (T54.setTop (mkF m 135 #[.val (.int p1), .val (.int p2), .val (.int p3), .val (.int p4), .val (.int p5), .val (.ref b1), .val (.ref b2_3_32), .val (.ref b2_3_36), .val (.int (1 : Int32)), .val (.int (sp24 p1 p5)), .unset, .unset] [(.int (0 : Int32)), (.ref b2_3_32)])) _
          refine X54.iaload hx (j := (0 : Int32)) (v := (.int (1 : Int32))) (by rw [e54]; exact Ar_56.1) (State.isArrayOf_alike hZ.alike Ar_56.2.1) Ar_56.2.2 hin_56 hat_56 (g := (mkF m 135 #[.val (.int p1), .val (.int p2), .val (.int p3), .val (.int p4), .val (.int p5), .val (.ref b1), .val (.ref b2_3_32), .val (.ref b2_3_36), .val (.int (1 : Int32)), .val (.int (sp24 p1 p5)), .unset, .unset] [(.int (0 : Int32)), (.ref b2_3_32)])) rfl rfl (hb hby at_135) _ ?_
          refine XS.iconst X54.here hx rfl (hb hby at_136) ?_
          show Steps p.tables e below (T54.setTop (mkF m 137 #[.val (.int p1), .val (.int p2), .val (.int p3), .val (.int p4), .val (.int p5), .val (.ref b1), .val (.ref b2_3_32), .val (.ref b2_3_36), .val (.int (1 : Int32)), .val (.int (sp24 p1 p5)), .unset, .unset] [(.int (1 : Int32)), (.int (1 : Int32))])) _
          refine XS.icmpNo X54.here hx rfl (hb hby at_137) rfl (teq (by decide : (1 : Int32) = (1 : Int32))).2 ?_
          refine XS.iconst X54.here hx rfl (hb hby at_140) ?_
          refine XS.goto X54.here hx rfl (pc0 := 141) (pc' := 145) rfl (hb hby at_141) (by decide) (by decide) ?_
          refine XS.istore X54.here hx rfl (hb hby at_145) rfl (l' := #[.val (.int p1), .val (.int p2), .val (.int p3), .val (.int p4), .val (.int p5), .val (.ref b1), .val (.ref b2_3_32), .val (.ref b2_3_36), .val (.int (1 : Int32)), .val (.int (sp24 p1 p5)), .val (.int (1 : Int32)), .unset]) rfl ?_
          show Steps p.tables e below (T54.setTop (mkF m 147 #[.val (.int p1), .val (.int p2), .val (.int p3), .val (.int p4), .val (.int p5), .val (.ref b1), .val (.ref b2_3_32), .val (.ref b2_3_36), .val (.int (1 : Int32)), .val (.int (sp24 p1 p5)), .val (.int (1 : Int32)), .unset] [])) _
          refine XS.goto X54.here hx rfl (pc0 := 147) (pc' := 163) rfl (hb hby at_147) (by decide) (by decide) ?_
          refine XS.iload X54.here hx rfl (hb hby at_163) rfl ?_
          show Steps p.tables e below (T54.setTop (mkF m 165 #[.val (.int p1), .val (.int p2), .val (.int p3), .val (.int p4), .val (.int p5), .val (.ref b1), .val (.ref b2_3_32), .val (.ref b2_3_36), .val (.int (1 : Int32)), .val (.int (sp24 p1 p5)), .val (.int (1 : Int32)), .unset] [(.int (sp24 p1 p5))])) _
          refine XS.ifYes X54.here hx rfl (pc0 := 165) (pc' := 192) rfl (hb hby at_165) rfl ((if0 _ _).trans (teq (q1.mp hO0)).1) (by decide) (by decide) ?_
          refine XS.iload X54.here hx rfl (hb hby at_192) rfl ?_
          show Steps p.tables e below (T54.setTop (mkF m 194 #[.val (.int p1), .val (.int p2), .val (.int p3), .val (.int p4), .val (.int p5), .val (.ref b1), .val (.ref b2_3_32), .val (.ref b2_3_36), .val (.int (1 : Int32)), .val (.int (sp24 p1 p5)), .val (.int (1 : Int32)), .unset] [(.int (1 : Int32))])) _
          refine XS.ifNo X54.here hx rfl (hb hby at_194) rfl ((if0 _ _).trans (feq (by decide : ¬ ((1 : Int32) = (0 : Int32)))).1) ?_
          refine XS.aload X54.here hx rfl (hb hby at_197) rfl rfl ?_
          show Steps p.tables e below (T54.setTop (mkF m 199 #[.val (.int p1), .val (.int p2), .val (.int p3), .val (.int p4), .val (.int p5), .val (.ref b1), .val (.ref b2_3_32), .val (.ref b2_3_36), .val (.int (1 : Int32)), .val (.int (sp24 p1 p5)), .val (.int (1 : Int32)), .unset] [(.ref b2_3_36)])) _
          refine X54.arraylength hx (by rw [e54]; exact Ar_57.1) (State.isArrayOf_alike hZ.alike Ar_57.2.1) (g := (mkF m 199 #[.val (.int p1), .val (.int p2), .val (.int p3), .val (.int p4), .val (.int p5), .val (.ref b1), .val (.ref b2_3_32), .val (.ref b2_3_36), .val (.int (1 : Int32)), .val (.int (sp24 p1 p5)), .val (.int (1 : Int32)), .unset] [(.ref b2_3_36)])) rfl rfl (hb hby at_199) _ ?_
          rw [len_of S_57 N_57]
          refine XS.iconst X54.here hx rfl (hb hby at_200) ?_
          show Steps p.tables e below (T54.setTop (mkF m 201 #[.val (.int p1), .val (.int p2), .val (.int p3), .val (.int p4), .val (.int p5), .val (.ref b1), .val (.ref b2_3_32), .val (.ref b2_3_36), .val (.int (1 : Int32)), .val (.int (sp24 p1 p5)), .val (.int (1 : Int32)), .unset] [(.int (1 : Int32)), (.int (1 : Int32))])) _
          refine XS.icmpNo X54.here hx rfl (hb hby at_201) rfl (teq (by decide : (1 : Int32) = (1 : Int32))).2 ?_
          refine XS.aload X54.here hx rfl (hb hby at_204) rfl rfl ?_
          refine XS.iconst X54.here hx rfl (hb hby at_206) ?_
          show Steps p.tables e below (T54.setTop (mkF m 207 #[.val (.int p1), .val (.int p2), .val (.int p3), .val (.int p4), .val (.int p5), .val (.ref b1), .val (.ref b2_3_32), .val (.ref b2_3_36), .val (.int (1 : Int32)), .val (.int (sp24 p1 p5)), .val (.int (1 : Int32)), .unset] [(.int (0 : Int32)), (.ref b2_3_36)])) _
          refine X54.iaload hx (j := (0 : Int32)) (v := (.int (1 : Int32))) (by rw [e54]; exact Ar_58.1) (State.isArrayOf_alike hZ.alike Ar_58.2.1) Ar_58.2.2 hin_58 hat_58 (g := (mkF m 207 #[.val (.int p1), .val (.int p2), .val (.int p3), .val (.int p4), .val (.int p5), .val (.ref b1), .val (.ref b2_3_32), .val (.ref b2_3_36), .val (.int (1 : Int32)), .val (.int (sp24 p1 p5)), .val (.int (1 : Int32)), .unset] [(.int (0 : Int32)), (.ref b2_3_36)])) rfl rfl (hb hby at_207) _ ?_
          refine XS.iconst X54.here hx rfl (hb hby at_208) ?_
          show Steps p.tables e below (T54.setTop (mkF m 209 #[.val (.int p1), .val (.int p2), .val (.int p3), .val (.int p4), .val (.int p5), .val (.ref b1), .val (.ref b2_3_32), .val (.ref b2_3_36), .val (.int (1 : Int32)), .val (.int (sp24 p1 p5)), .val (.int (1 : Int32)), .unset] [(.int (1 : Int32)), (.int (1 : Int32))])) _
          refine XS.icmpNo X54.here hx rfl (hb hby at_209) rfl (teq (by decide : (1 : Int32) = (1 : Int32))).2 ?_
          refine XS.iconst X54.here hx rfl (hb hby at_212) ?_
          refine XS.goto X54.here hx rfl (pc0 := 213) (pc' := 217) rfl (hb hby at_213) (by decide) (by decide) ?_
          refine XS.istore X54.here hx rfl (hb hby at_217) rfl (l' := #[.val (.int p1), .val (.int p2), .val (.int p3), .val (.int p4), .val (.int p5), .val (.ref b1), .val (.ref b2_3_32), .val (.ref b2_3_36), .val (.int (1 : Int32)), .val (.int (sp24 p1 p5)), .val (.int (1 : Int32)), .val (.int (1 : Int32))]) rfl ?_
          show Steps p.tables e below (T54.setTop (mkF m 219 #[.val (.int p1), .val (.int p2), .val (.int p3), .val (.int p4), .val (.int p5), .val (.ref b1), .val (.ref b2_3_32), .val (.ref b2_3_36), .val (.int (1 : Int32)), .val (.int (sp24 p1 p5)), .val (.int (1 : Int32)), .val (.int (1 : Int32))] [])) _
          refine XS.goto X54.here hx rfl (pc0 := 219) (pc' := 235) rfl (hb hby at_219) (by decide) (by decide) ?_
          refine XS.iload X54.here hx rfl (hb hby at_235) rfl ?_
          show Steps p.tables e below (T54.setTop (mkF m 237 #[.val (.int p1), .val (.int p2), .val (.int p3), .val (.int p4), .val (.int p5), .val (.ref b1), .val (.ref b2_3_32), .val (.ref b2_3_36), .val (.int (1 : Int32)), .val (.int (sp24 p1 p5)), .val (.int (1 : Int32)), .val (.int (1 : Int32))] [(.int (1 : Int32))])) _
          refine XS.ifNo X54.here hx rfl (hb hby at_237) rfl ((if0 _ _).trans (feq (by decide : ¬ ((1 : Int32) = (0 : Int32)))).1) ?_
          refine XS.iload X54.here hx rfl (hb hby at_240) rfl ?_
          show Steps p.tables e below (T54.setTop (mkF m 242 #[.val (.int p1), .val (.int p2), .val (.int p3), .val (.int p4), .val (.int p5), .val (.ref b1), .val (.ref b2_3_32), .val (.ref b2_3_36), .val (.int (1 : Int32)), .val (.int (sp24 p1 p5)), .val (.int (1 : Int32)), .val (.int (1 : Int32))] [(.int (1 : Int32))])) _
          refine XS.ifNo X54.here hx rfl (hb hby at_242) rfl ((if0 _ _).trans (feq (by decide : ¬ ((1 : Int32) = (0 : Int32)))).1) ?_
          refine XS.iconst X54.here hx rfl (hb hby at_245) ?_
          refine XS.goto X54.here hx rfl (pc0 := 246) (pc' := 250) rfl (hb hby at_246) (by decide) (by decide) ?_
          show Steps p.tables e below (T54.setTop (mkF m 250 #[.val (.int p1), .val (.int p2), .val (.int p3), .val (.int p4), .val (.int p5), .val (.ref b1), .val (.ref b2_3_32), .val (.ref b2_3_36), .val (.int (1 : Int32)), .val (.int (sp24 p1 p5)), .val (.int (1 : Int32)), .val (.int (1 : Int32))] [(.int (1 : Int32))])) _
          exact retN X54 hx (t := .boolean) Bd.returns (by simp) (hb hby at_250) hr
        · show Q0 Z p1 p2 p3 p4 p5 apr h0 n0 _ T54.heap _
          rw [e54]
          exact ⟨rfl, N54⟩
    · have q1 := own_one p1 p5
      obtain ⟨cq59, kq59, q59a, q59b, q59c⟩ := isOf hZ rfl c33_E_b1
      obtain ⟨_, _, ⟨T59, L59, k59, n59⟩, -, X59, ⟨Lc59, hQ59, l59, y59, z59⟩, st59⟩ := X33.virtualBack hx (y := (⟨"com/example/kindgen/kindgen/core/document/RecordOrder", "end", "(J)V"⟩ : MethodName)) (z := (⟨"com/example/kindgen/kindgen/core/document/RecordOrder", "end", "(J)V"⟩ : MethodName)) hown (mvT hZ (hw _ (List.mem_of_getElem? (i := 91) rfl))) (mvT hZ (hw _ (List.mem_of_getElem? (i := 92) rfl))) (notFace_of_selects (args := #[]) (mvT hZ (hw _ (List.mem_of_getElem? (i := 94) rfl)))) (mvT hZ (hw _ (List.mem_of_getElem? (i := 94) rfl))) (mvT hZ (hw _ (List.mem_of_getElem? (i := 93) rfl))) (by decide) (backOf (W := 0) (rm11c0 l Z a0 hw [] b1 b2_2 b5_2 b7_2 k7_2 b9_3 (own_ls p5 (own_ls p1 (-1 : Int32))) (own_kp p5 (own_kp p1 (0 : Int32))) (own_ou p5 (own_kp p1 (0 : Int32)) (own_ls p1 (-1 : Int32)) (own_ou p1 (0 : Int32) (-1 : Int32) (0 : Int32))) k5_2 (2 : Int32) (.ref b9_5) b2_3_2 apr b4_2_2_3_9_31 b1_5_2_3_9_31 k4_2_2_3_9_31 T33.heap n0 Z33 hO0 (S_PRESENT.ext O33.2) c33_E_b1 c33_F_b1_outOfOrder c33_F_b1_held c33_F_b1_levels c33_F_b1_longBytes c33_F_b1_depth c33_F_b1_started c33_F_b1_heldCount t33_0 t33_1 t33_2 t33_3 t33_4 t33_5 t33_6 c33_E_b2_2 c33_F_b2_2_map c33_E_b2_3_2 c33_F_b2_3_2_table c33_F_b2_3_2_threshold c33_F_b2_3_2_modCount c33_F_b2_3_2_size c33_F_b2_3_2_loadFactor c33_E_b1_5_2_3_9_31 c33_F_b1_5_2_3_9_31_hash c33_F_b1_5_2_3_9_31_key c33_F_b1_5_2_3_9_31_value c33_F_b1_5_2_3_9_31_next c33_V_b7_2 c33_V_b5_2 c33_V_b4_2_2_3_9_31 t2_24 t31_16 nf3_b1_b9_3 nf2_b1_b2_2 nf2_b1_b2_3_2 nf31_b1_b1_5_2_3_9_31 nf2_b1_b7_2 nf2_b1_b5_2 nf31_b1_b4_2_2_3_9_31 (Ne.symm nf3_b2_2_b9_3) (Ne.symm nf3_b2_3_2_b9_3) nf31_b9_3_b1_5_2_3_9_31 (Ne.symm nf3_b7_2_b9_3) (Ne.symm nf3_b5_2_b9_3) nf31_b9_3_b4_2_2_3_9_31 t2_27 nf31_b2_2_b1_5_2_3_9_31 t2_30 t2_28 nf31_b2_2_b4_2_2_3_9_31 nf31_b2_3_2_b1_5_2_3_9_31 t2_31 t2_29 nf31_b2_3_2_b4_2_2_3_9_31 (Ne.symm nf31_b7_2_b1_5_2_3_9_31) (Ne.symm nf31_b5_2_b1_5_2_3_9_31) (Ne.symm t31_26) (Ne.symm t2_32) nf31_b7_2_b4_2_2_3_9_31 nf31_b5_2_b4_2_2_3_9_31 g_b1 t2_21 t31_24) hZ (hw _ (List.mem_of_getElem? (i := 95) rfl)) (hw _ (List.mem_of_getElem? (i := 2) rfl)) (by decide) (by decide)) q59a q59c (g := (mkF m 71 #[.val (.int p1), .val (.int p2), .val (.int p3), .val (.int p4), .val (.int p5), .val (.ref b1), .val (.ref b2_3_32), .unset, .unset, .unset, .unset, .unset] [(.long (0 : Int64)), (.ref b1)])) rfl (by rw [hml]; rfl) (Steps.refl _) (argsL := [(.long (0 : Int64))]) (rest := []) (lenOf pd_0 rfl) rfl (by show 2 * 0 + _ ≤ _; exact Nat.le_of_eq rfl) (hb hby at_71) (fun _ _ => ⟨rfl, rfl, (by decide : 10 + 0 ≤ _), (by decide : 73 + 0 ≤ _)⟩)
      dsimp only [Pt.U, Pt.locs, Pt.cells, Pt.slots] at X59 l59 y59 z59 st59 hQ59
      subst l59 y59 z59
      obtain ⟨rfl, N59q, K59q, t59_0, t59_1, t59_2, t59_3, t59_4, t59_5, t59_6, t59_7, t59_8, t59_9, t59_10, t59_11, t59_12, t59_13⟩ := hQ59
      have N59 := Fr.app N33 N59q
      have c59_V_b2_3_32 := c33_V_b2_3_32.keep K59q (by simp only [List.mem_cons, List.not_mem_nil, or_false, not_or]; exact ⟨(Ne.symm nf32_b1_b2_3_32), (Ne.symm nf32_b5_2_b2_3_32), (Ne.symm nf32_b1_5_2_3_9_31_b2_3_32)⟩)
      have Z59 : n0 ≤ T59.heap.size := Nat.le_trans Z33 K59q.1
      obtain ⟨cq60, kq60, q60a, q60b, q60c⟩ := isOf hZ rfl t59_0
      obtain ⟨_, _, ⟨T60, L60, k60, n60⟩, -, X60, ⟨Lc60, hQ60, l60, y60, z60⟩, st60⟩ := X59.virtualBack hx (y := (⟨"com/example/kindgen/kindgen/core/document/RecordOrder", "held", "()[I"⟩ : MethodName)) (z := (⟨"com/example/kindgen/kindgen/core/document/RecordOrder", "held", "()[I"⟩ : MethodName)) hown (mvT hZ (hw _ (List.mem_of_getElem? (i := 166) rfl))) (mvT hZ (hw _ (List.mem_of_getElem? (i := 167) rfl))) (notFace_of_selects (args := #[]) (mvT hZ (hw _ (List.mem_of_getElem? (i := 169) rfl)))) (mvT hZ (hw _ (List.mem_of_getElem? (i := 169) rfl))) (mvT hZ (hw _ (List.mem_of_getElem? (i := 168) rfl))) (by decide) (backOf (W := 0) (rm21k1 l Z a0 hw [] b1 b5_2 k5_2 (0 : Int32) T59.heap n0 Z59 t59_0 t59_2 t59_7 t59_8 nf2_b1_b5_2) hZ (hw _ (List.mem_of_getElem? (i := 170) rfl)) (hw _ (List.mem_of_getElem? (i := 2) rfl)) (by decide) (by decide)) q60a q60c (g := (mkF m 76 #[.val (.int p1), .val (.int p2), .val (.int p3), .val (.int p4), .val (.int p5), .val (.ref b1), .val (.ref b2_3_32), .unset, .unset, .unset, .unset, .unset] [(.ref b1)])) rfl (by rw [hml]; rfl) (Steps.refl _) (argsL := []) (rest := []) (lenOf pd_13 rfl) rfl (by show 2 * 0 + _ ≤ _; exact Nat.le_of_eq rfl) (hb hby at_76) (fun _ _ => ⟨rfl, rfl, (by decide : 10 + 1 ≤ _), (by decide : 73 + 1 ≤ _)⟩)
      dsimp only [Pt.U, Pt.locs, Pt.cells, Pt.slots] at X60 l60 y60 z60 st60 hQ60
      subst l60 y60 z60
      obtain ⟨b2_3_60, k2_3_60, rfl, N60q, K60q, t60_0, t60_1, t60_2⟩ := hQ60
      have N60 := Fr.app N59 N60q
      have c60_V_b2_3_32 := c59_V_b2_3_32.keep K60q (by simp)
      have Z60 : n0 ≤ T60.heap.size := Nat.le_trans Z59 K60q.1
      obtain ⟨_, _, ⟨T61, L61, k61, n61⟩, -, X61, ⟨Lc61, hQ61, l61, y61, z61⟩, st61⟩ := Jvm.LawKit.callS X60 hx (y := (⟨"com/example/kindgen/kindgen/core/document/RecordOrderMemberPinLaw", "pair", "(II)Z"⟩ : MethodName)) hown (mvT hZ (hw _ (List.mem_of_getElem? (i := 183) rfl))) (mvT hZ (hw _ (List.mem_of_getElem? (i := 184) rfl))) (mvT hZ (hw _ (List.mem_of_getElem? (i := 185) rfl))) (mvT hZ (hw _ (List.mem_of_getElem? (i := 186) rfl))) (by decide) (backOf (W := 0) (rm24 l Z a0 hw [] p2 p3 T60.heap n0 Z60) hZ (hw _ (List.mem_of_getElem? (i := 186) rfl)) (hw _ (List.mem_of_getElem? (i := 185) rfl)) (by decide) (by decide)) (g := (mkF m 83 #[.val (.int p1), .val (.int p2), .val (.int p3), .val (.int p4), .val (.int p5), .val (.ref b1), .val (.ref b2_3_32), .val (.ref b2_3_60), .unset, .unset, .unset, .unset] [(.int p3), (.int p2)])) rfl (by rw [hml]; rfl) (argsL := [(.int p2), (.int p3)]) (rest := []) (lenOf pd_17 rfl) rfl (by show 2 * 0 + _ ≤ _; exact Nat.le_of_eq rfl) (hb hby at_83) (fun _ _ => ⟨rfl, rfl, (by decide : 11 + 0 ≤ _), (by decide : 74 + 0 ≤ _)⟩)
      dsimp only [Pt.U, Pt.locs, Pt.cells, Pt.slots] at X61 l61 y61 z61 st61 hQ61
      subst l61 y61 z61
      obtain ⟨rfl, N61q, e61⟩ := hQ61
      have N61 := Fr.app N60 N61q
      have pre62 : ∀ t, Steps p.tables e below (T61.setTop (mkF m 86 #[.val (.int p1), .val (.int p2), .val (.int p3), .val (.int p4), .val (.int p5), .val (.ref b1), .val (.ref b2_3_32), .val (.ref b2_3_60), .unset, .unset, .unset, .unset] [(.int (sp24 p2 p3))])) t → Steps p.tables e below (s₁.setTop (entryFrame m #[(.int p1), (.int p2), (.int p3), (.int p4), (.int p5)] maxLocals)) t := by
        intro t k
        refine pre34 t ?_
        show Steps p.tables e below (T33.setTop (mkF m 71 #[.val (.int p1), .val (.int p2), .val (.int p3), .val (.int p4), .val (.int p5), .val (.ref b1), .val (.ref b2_3_32), .unset, .unset, .unset, .unset, .unset] [(.long (0 : Int64)), (.ref b1)])) _
        refine st59.trans ?_
        refine XS.aload X59.here hx rfl (hb hby at_74) rfl rfl ?_
        show Steps p.tables e below (T59.setTop (mkF m 76 #[.val (.int p1), .val (.int p2), .val (.int p3), .val (.int p4), .val (.int p5), .val (.ref b1), .val (.ref b2_3_32), .unset, .unset, .unset, .unset, .unset] [(.ref b1)])) _
        refine st60.trans ?_
        show Steps p.tables e below (T60.setTop (mkF m 79 #[.val (.int p1), .val (.int p2), .val (.int p3), .val (.int p4), .val (.int p5), .val (.ref b1), .val (.ref b2_3_32), .unset, .unset, .unset, .unset, .unset] [(.ref b2_3_60)])) _
        refine XS.astore X60.here hx rfl (hb hby at_79) rfl rfl (l' := #[.val (.int p1), .val (.int p2), .val (.int p3), .val (.int p4), .val (.int p5), .val (.ref b1), .val (.ref b2_3_32), .val (.ref b2_3_60), .unset, .unset, .unset, .unset]) rfl ?_
        refine XS.iloadN X60.here hx rfl (hb hby at_81) rfl ?_
        refine XS.iloadN X60.here hx rfl (hb hby at_82) rfl ?_
        show Steps p.tables e below (T60.setTop (mkF m 83 #[.val (.int p1), .val (.int p2), .val (.int p3), .val (.int p4), .val (.int p5), .val (.ref b1), .val (.ref b2_3_32), .val (.ref b2_3_60), .unset, .unset, .unset, .unset] [(.int p3), (.int p2)])) _
        refine st61 _ ?_
        exact k
      by_cases hc86_63 : (sp24 p2 p3) = (0 : Int32)
      · obtain ⟨_, _, ⟨T64, L64, k64, n64⟩, -, X64, ⟨Lc64, hQ64, l64, y64, z64⟩, st64⟩ := Jvm.LawKit.callS X61 hx (y := (⟨"com/example/kindgen/kindgen/core/document/RecordOrderMemberPinLaw", "pair", "(II)Z"⟩ : MethodName)) hown (mvT hZ (hw _ (List.mem_of_getElem? (i := 183) rfl))) (mvT hZ (hw _ (List.mem_of_getElem? (i := 184) rfl))) (mvT hZ (hw _ (List.mem_of_getElem? (i := 185) rfl))) (mvT hZ (hw _ (List.mem_of_getElem? (i := 186) rfl))) (by decide) (backOf (W := 0) (rm24 l Z a0 hw [] p2 p4 T60.heap n0 Z60) hZ (hw _ (List.mem_of_getElem? (i := 186) rfl)) (hw _ (List.mem_of_getElem? (i := 185) rfl)) (by decide) (by decide)) (g := (mkF m 91 #[.val (.int p1), .val (.int p2), .val (.int p3), .val (.int p4), .val (.int p5), .val (.ref b1), .val (.ref b2_3_32), .val (.ref b2_3_60), .unset, .unset, .unset, .unset] [(.int p4), (.int p2)])) rfl (by rw [hml]; rfl) (argsL := [(.int p2), (.int p4)]) (rest := []) (lenOf pd_17 rfl) rfl (by show 2 * 0 + _ ≤ _; exact Nat.le_of_eq rfl) (hb hby at_91) (fun _ _ => ⟨rfl, e61, (by decide : 11 + 0 ≤ _), (by decide : 74 + 0 ≤ _)⟩)
        dsimp only [Pt.U, Pt.locs, Pt.cells, Pt.slots] at X64 l64 y64 z64 st64 hQ64
        subst l64 y64 z64
        obtain ⟨rfl, N64q, e64⟩ := hQ64
        have N64 := Fr.app N61 N64q
        have pre65 : ∀ t, Steps p.tables e below (T64.setTop (mkF m 94 #[.val (.int p1), .val (.int p2), .val (.int p3), .val (.int p4), .val (.int p5), .val (.ref b1), .val (.ref b2_3_32), .val (.ref b2_3_60), .unset, .unset, .unset, .unset] [(.int (sp24 p2 p4))])) t → Steps p.tables e below (s₁.setTop (entryFrame m #[(.int p1), (.int p2), (.int p3), (.int p4), (.int p5)] maxLocals)) t := by
          intro t k
          refine pre62 t ?_
          show Steps p.tables e below (T61.setTop (mkF m 86 #[.val (.int p1), .val (.int p2), .val (.int p3), .val (.int p4), .val (.int p5), .val (.ref b1), .val (.ref b2_3_32), .val (.ref b2_3_60), .unset, .unset, .unset, .unset] [(.int (sp24 p2 p3))])) _
          refine XS.ifNo X61.here hx rfl (hb hby at_86) rfl ((if0 _ _).trans (teq hc86_63).2) ?_
          refine XS.iloadN X61.here hx rfl (hb hby at_89) rfl ?_
          refine XS.iloadN X61.here hx rfl (hb hby at_90) rfl ?_
          show Steps p.tables e below (T61.setTop (mkF m 91 #[.val (.int p1), .val (.int p2), .val (.int p3), .val (.int p4), .val (.int p5), .val (.ref b1), .val (.ref b2_3_32), .val (.ref b2_3_60), .unset, .unset, .unset, .unset] [(.int p4), (.int p2)])) _
          refine st64 _ ?_
          exact k
        by_cases hc94_66 : (sp24 p2 p4) = (0 : Int32)
        · obtain ⟨_, _, ⟨T67, L67, k67, n67⟩, -, X67, ⟨Lc67, hQ67, l67, y67, z67⟩, st67⟩ := Jvm.LawKit.callS X64 hx (y := (⟨"com/example/kindgen/kindgen/core/document/RecordOrderMemberPinLaw", "pair", "(II)Z"⟩ : MethodName)) hown (mvT hZ (hw _ (List.mem_of_getElem? (i := 183) rfl))) (mvT hZ (hw _ (List.mem_of_getElem? (i := 184) rfl))) (mvT hZ (hw _ (List.mem_of_getElem? (i := 185) rfl))) (mvT hZ (hw _ (List.mem_of_getElem? (i := 186) rfl))) (by decide) (backOf (W := 0) (rm24 l Z a0 hw [] p3 p4 T60.heap n0 Z60) hZ (hw _ (List.mem_of_getElem? (i := 186) rfl)) (hw _ (List.mem_of_getElem? (i := 185) rfl)) (by decide) (by decide)) (g := (mkF m 99 #[.val (.int p1), .val (.int p2), .val (.int p3), .val (.int p4), .val (.int p5), .val (.ref b1), .val (.ref b2_3_32), .val (.ref b2_3_60), .unset, .unset, .unset, .unset] [(.int p4), (.int p3)])) rfl (by rw [hml]; rfl) (argsL := [(.int p3), (.int p4)]) (rest := []) (lenOf pd_17 rfl) rfl (by show 2 * 0 + _ ≤ _; exact Nat.le_of_eq rfl) (hb hby at_99) (fun _ _ => ⟨rfl, e64, (by decide : 11 + 0 ≤ _), (by decide : 74 + 0 ≤ _)⟩)
          dsimp only [Pt.U, Pt.locs, Pt.cells, Pt.slots] at X67 l67 y67 z67 st67 hQ67
          subst l67 y67 z67
          obtain ⟨rfl, N67q, e67⟩ := hQ67
          have N67 := Fr.app N64 N67q
          obtain ⟨_, _, ⟨T68, L68, k68, n68⟩, -, X68, ⟨Lc68, hQ68, l68, y68, z68⟩, st68⟩ := Jvm.LawKit.callS X67 hx (y := (⟨"com/example/kindgen/kindgen/core/document/RecordOrderMemberPinLaw", "pair", "(II)Z"⟩ : MethodName)) hown (mvT hZ (hw _ (List.mem_of_getElem? (i := 183) rfl))) (mvT hZ (hw _ (List.mem_of_getElem? (i := 184) rfl))) (mvT hZ (hw _ (List.mem_of_getElem? (i := 185) rfl))) (mvT hZ (hw _ (List.mem_of_getElem? (i := 186) rfl))) (by decide) (backOf (W := 0) (rm24 l Z a0 hw [] p1 p5 T60.heap n0 Z60) hZ (hw _ (List.mem_of_getElem? (i := 186) rfl)) (hw _ (List.mem_of_getElem? (i := 185) rfl)) (by decide) (by decide)) (g := (mkF m 115 #[.val (.int p1), .val (.int p2), .val (.int p3), .val (.int p4), .val (.int p5), .val (.ref b1), .val (.ref b2_3_32), .val (.ref b2_3_60), .val (.int (1 : Int32)), .unset, .unset, .unset] [(.int p5), (.int p1)])) rfl (by rw [hml]; rfl) (argsL := [(.int p1), (.int p5)]) (rest := []) (lenOf pd_17 rfl) rfl (by show 2 * 0 + _ ≤ _; exact Nat.le_of_eq rfl) (hb hby at_115) (fun _ _ => ⟨rfl, e67, (by decide : 11 + 0 ≤ _), (by decide : 74 + 0 ≤ _)⟩)
          dsimp only [Pt.U, Pt.locs, Pt.cells, Pt.slots] at X68 l68 y68 z68 st68 hQ68
          subst l68 y68 z68
          obtain ⟨rfl, N68q, e68⟩ := hQ68
          have N68 := Fr.app N67 N68q
          obtain ⟨cl_69, Ar_69, -, S_69, N_69, -, -⟩ := id c60_V_b2_3_32
          obtain ⟨cl_70, Ar_70, -, S_70, N_70, H_70, -⟩ := id c60_V_b2_3_32
          have hin_70 : ¬ ((0 : Int32) < 0 ∨ cl_70.slots.size ≤ ((0 : Int32)).toNatClampNeg) := inb_of S_70 ⟨by decide, by decide⟩
          have hat_70 : cl_70.slots[((0 : Int32)).toNatClampNeg]? = some (.int (1 : Int32)) := Has.at H_70 hin_70 rfl
          obtain ⟨cl_71, Ar_71, -, S_71, N_71, -, -⟩ := id t60_0
          obtain ⟨cl_72, Ar_72, -, S_72, N_72, H_72, -⟩ := id t60_0
          have hin_72 : ¬ ((0 : Int32) < 0 ∨ cl_72.slots.size ≤ ((0 : Int32)).toNatClampNeg) := inb_of S_72 ⟨by decide, by decide⟩
          have hat_72 : cl_72.slots[((0 : Int32)).toNatClampNeg]? = some (.int (0 : Int32)) := Has.at H_72 hin_72 rfl
          obtain ⟨fs, hr, hrun, hended, hW, hsame⟩ := X68.leave (v := some (.int (1 : Int32))) (fun h => by rw [Bd.returns] at h; cases h)
          refine ⟨_, _, pre65 _ ?_, hrun, hended, _, _, rfl, ?_, ⟨_, rfl⟩, hW, hsame.mono (by decide) (by decide)⟩
          · show Steps p.tables e below (T64.setTop (mkF m 94 #[.val (.int p1), .val (.int p2), .val (.int p3), .val (.int p4), .val (.int p5), .val (.ref b1), .val (.ref b2_3_32), .val (.ref b2_3_60), .unset, .unset, .unset, .unset] [(.int (sp24 p2 p4))])) _
            refine XS.ifNo X64.here hx rfl (hb hby at_94) rfl ((if0 _ _).trans (teq hc94_66).2) ?_
            refine XS.iloadN X64.here hx rfl (hb hby at_97) rfl ?_
            refine XS.iloadN X64.here hx rfl (hb hby at_98) rfl ?_
            show Steps p.tables e below (T64.setTop (mkF m 99 #[.val (.int p1), .val (.int p2), .val (.int p3), .val (.int p4), .val (.int p5), .val (.ref b1), .val (.ref b2_3_32), .val (.ref b2_3_60), .unset, .unset, .unset, .unset] [(.int p4), (.int p3)])) _
            refine st67 _ ?_
            show Steps p.tables e below (T67.setTop (mkF m 102 #[.val (.int p1), .val (.int p2), .val (.int p3), .val (.int p4), .val (.int p5), .val (.ref b1), .val (.ref b2_3_32), .val (.ref b2_3_60), .unset, .unset, .unset, .unset] [(.int (sp24 p3 p4))])) _
            refine XS.ifNo X67.here hx rfl (hb hby at_102) rfl ((if0 _ _).trans (feq (fun q => hO1 ((own_three p2 p3 p4).mpr ⟨hc86_63, hc94_66, q⟩))).1) ?_
            refine XS.iconst X67.here hx rfl (hb hby at_105) ?_
            refine XS.goto X67.here hx rfl (pc0 := 106) (pc' := 110) rfl (hb hby at_106) (by decide) (by decide) ?_
            refine XS.istore X67.here hx rfl (hb hby at_110) rfl (l' := #[.val (.int p1), .val (.int p2), .val (.int p3), .val (.int p4), .val (.int p5), .val (.ref b1), .val (.ref b2_3_32), .val (.ref b2_3_60), .val (.int (1 : Int32)), .unset, .unset, .unset]) rfl ?_
            show Steps p.tables e below (T67.setTop (mkF m 112 #[.val (.int p1), .val (.int p2), .val (.int p3), .val (.int p4), .val (.int p5), .val (.ref b1), .val (.ref b2_3_32), .val (.ref b2_3_60), .val (.int (1 : Int32)), .unset, .unset, .unset] [])) _
            refine XS.iloadN X67.here hx rfl (hb hby at_112) rfl ?_
            refine XS.iload X67.here hx rfl (hb hby at_113) rfl ?_
            show Steps p.tables e below (T67.setTop (mkF m 115 #[.val (.int p1), .val (.int p2), .val (.int p3), .val (.int p4), .val (.int p5), .val (.ref b1), .val (.ref b2_3_32), .val (.ref b2_3_60), .val (.int (1 : Int32)), .unset, .unset, .unset] [(.int p5), (.int p1)])) _
            refine st68 _ ?_
            refine XS.istore X68.here hx rfl (hb hby at_118) rfl (l' := #[.val (.int p1), .val (.int p2), .val (.int p3), .val (.int p4), .val (.int p5), .val (.ref b1), .val (.ref b2_3_32), .val (.ref b2_3_60), .val (.int (1 : Int32)), .val (.int (sp24 p1 p5)), .unset, .unset]) rfl ?_
            refine XS.iload X68.here hx rfl (hb hby at_120) rfl ?_
            show Steps p.tables e below (T68.setTop (mkF m 122 #[.val (.int p1), .val (.int p2), .val (.int p3), .val (.int p4), .val (.int p5), .val (.ref b1), .val (.ref b2_3_32), .val (.ref b2_3_60), .val (.int (1 : Int32)), .val (.int (sp24 p1 p5)), .unset, .unset] [(.int (1 : Int32))])) _
            refine XS.ifNo X68.here hx rfl (hb hby at_122) rfl ((if0 _ _).trans (feq (by decide : ¬ ((1 : Int32) = (0 : Int32)))).1) ?_
            refine XS.aload X68.here hx rfl (hb hby at_125) rfl rfl ?_
            show Steps p.tables e below (T68.setTop (mkF m 127 #[.val (.int p1), .val (.int p2), .val (.int p3), .val (.int p4), .val (.int p5), .val (.ref b1), .val (.ref b2_3_32), .val (.ref b2_3_60), .val (.int (1 : Int32)), .val (.int (sp24 p1 p5)), .unset, .unset] [(.ref b2_3_32)])) _
            refine X68.arraylength hx (by rw [e68]; exact Ar_69.1) (State.isArrayOf_alike hZ.alike Ar_69.2.1) (g := (mkF m 127 #[.val (.int p1), .val (.int p2), .val (.int p3), .val (.int p4), .val (.int p5), .val (.ref b1), .val (.ref b2_3_32), .val (.ref b2_3_60), .val (.int (1 : Int32)), .val (.int (sp24 p1 p5)), .unset, .unset] [(.ref b2_3_32)])) rfl rfl (hb hby at_127) _ ?_
            rw [len_of S_69 N_69]
            refine XS.iconst X68.here hx rfl (hb hby at_128) ?_
            show Steps p.tables e below (T68.setTop (mkF m 129 #[.val (.int p1), .val (.int p2), .val (.int p3), .val (.int p4), .val (.int p5), .val (.ref b1), .val (.ref b2_3_32), .val (.ref b2_3_60), .val (.int (1 : Int32)), .val (.int (sp24 p1 p5)), .unset, .unset] [(.int (1 : Int32)), (.int (1 : Int32))])) _
            refine XS.icmpNo X68.here hx rfl (hb hby at_129) rfl (teq (by decide : (1 : Int32) = (1 : Int32))).2 ?_
            refine XS.aload X68.here hx rfl (hb hby at_132) rfl rfl ?_
            refine XS.iconst X68.here hx rfl (hb hby at_134) ?_
            show Steps p.tables e below (T68.setTop (mkF m 135 #[.val (.int p1), .val (.int p2), .val (.int p3), .val (.int p4), .val (.int p5), .val (.ref b1), .val (.ref b2_3_32), .val (.ref b2_3_60), .val (.int (1 : Int32)), .val (.int (sp24 p1 p5)), .unset, .unset] [(.int (0 : Int32)), (.ref b2_3_32)])) _
            refine X68.iaload hx (j := (0 : Int32)) (v := (.int (1 : Int32))) (by rw [e68]; exact Ar_70.1) (State.isArrayOf_alike hZ.alike Ar_70.2.1) Ar_70.2.2 hin_70 hat_70 (g := (mkF m 135 #[.val (.int p1), .val (.int p2), .val (.int p3), .val (.int p4), .val (.int p5), .val (.ref b1), .val (.ref b2_3_32), .val (.ref b2_3_60), .val (.int (1 : Int32)), .val (.int (sp24 p1 p5)), .unset, .unset] [(.int (0 : Int32)), (.ref b2_3_32)])) rfl rfl (hb hby at_135) _ ?_
            refine XS.iconst X68.here hx rfl (hb hby at_136) ?_
            show Steps p.tables e below (T68.setTop (mkF m 137 #[.val (.int p1), .val (.int p2), .val (.int p3), .val (.int p4), .val (.int p5), .val (.ref b1), .val (.ref b2_3_32), .val (.ref b2_3_60), .val (.int (1 : Int32)), .val (.int (sp24 p1 p5)), .unset, .unset] [(.int (1 : Int32)), (.int (1 : Int32))])) _
            refine XS.icmpNo X68.here hx rfl (hb hby at_137) rfl (teq (by decide : (1 : Int32) = (1 : Int32))).2 ?_
            refine XS.iconst X68.here hx rfl (hb hby at_140) ?_
            refine XS.goto X68.here hx rfl (pc0 := 141) (pc' := 145) rfl (hb hby at_141) (by decide) (by decide) ?_
            refine XS.istore X68.here hx rfl (hb hby at_145) rfl (l' := #[.val (.int p1), .val (.int p2), .val (.int p3), .val (.int p4), .val (.int p5), .val (.ref b1), .val (.ref b2_3_32), .val (.ref b2_3_60), .val (.int (1 : Int32)), .val (.int (sp24 p1 p5)), .val (.int (1 : Int32)), .unset]) rfl ?_
            show Steps p.tables e below (T68.setTop (mkF m 147 #[.val (.int p1), .val (.int p2), .val (.int p3), .val (.int p4), .val (.int p5), .val (.ref b1), .val (.ref b2_3_32), .val (.ref b2_3_60), .val (.int (1 : Int32)), .val (.int (sp24 p1 p5)), .val (.int (1 : Int32)), .unset] [])) _
            refine XS.goto X68.here hx rfl (pc0 := 147) (pc' := 163) rfl (hb hby at_147) (by decide) (by decide) ?_
            refine XS.iload X68.here hx rfl (hb hby at_163) rfl ?_
            show Steps p.tables e below (T68.setTop (mkF m 165 #[.val (.int p1), .val (.int p2), .val (.int p3), .val (.int p4), .val (.int p5), .val (.ref b1), .val (.ref b2_3_32), .val (.ref b2_3_60), .val (.int (1 : Int32)), .val (.int (sp24 p1 p5)), .val (.int (1 : Int32)), .unset] [(.int (sp24 p1 p5))])) _
            refine XS.ifNo X68.here hx rfl (hb hby at_165) rfl ((if0 _ _).trans (feq (fun q => hO0 (q1.mpr q))).1) ?_
            refine XS.aload X68.here hx rfl (hb hby at_168) rfl rfl ?_
            show Steps p.tables e below (T68.setTop (mkF m 170 #[.val (.int p1), .val (.int p2), .val (.int p3), .val (.int p4), .val (.int p5), .val (.ref b1), .val (.ref b2_3_32), .val (.ref b2_3_60), .val (.int (1 : Int32)), .val (.int (sp24 p1 p5)), .val (.int (1 : Int32)), .unset] [(.ref b2_3_60)])) _
            refine X68.arraylength hx (by rw [e68]; exact Ar_71.1) (State.isArrayOf_alike hZ.alike Ar_71.2.1) (g := (mkF m 170 #[.val (.int p1), .val (.int p2), .val (.int p3), .val (.int p4), .val (.int p5), .val (.ref b1), .val (.ref b2_3_32), .val (.ref b2_3_60), .val (.int (1 : Int32)), .val (.int (sp24 p1 p5)), .val (.int (1 : Int32)), .unset] [(.ref b2_3_60)])) rfl rfl (hb hby at_170) _ ?_
            rw [len_of S_71 N_71]
            refine XS.iconst X68.here hx rfl (hb hby at_171) ?_
            show Steps p.tables e below (T68.setTop (mkF m 172 #[.val (.int p1), .val (.int p2), .val (.int p3), .val (.int p4), .val (.int p5), .val (.ref b1), .val (.ref b2_3_32), .val (.ref b2_3_60), .val (.int (1 : Int32)), .val (.int (sp24 p1 p5)), .val (.int (1 : Int32)), .unset] [(.int (1 : Int32)), (.int (1 : Int32))])) _
            refine XS.icmpNo X68.here hx rfl (hb hby at_172) rfl (teq (by decide : (1 : Int32) = (1 : Int32))).2 ?_
            refine XS.aload X68.here hx rfl (hb hby at_175) rfl rfl ?_
            refine XS.iconst X68.here hx rfl (hb hby at_177) ?_
            show Steps p.tables e below (T68.setTop (mkF m 178 #[.val (.int p1), .val (.int p2), .val (.int p3), .val (.int p4), .val (.int p5), .val (.ref b1), .val (.ref b2_3_32), .val (.ref b2_3_60), .val (.int (1 : Int32)), .val (.int (sp24 p1 p5)), .val (.int (1 : Int32)), .unset] [(.int (0 : Int32)), (.ref b2_3_60)])) _
            refine X68.iaload hx (j := (0 : Int32)) (v := (.int (0 : Int32))) (by rw [e68]; exact Ar_72.1) (State.isArrayOf_alike hZ.alike Ar_72.2.1) Ar_72.2.2 hin_72 hat_72 (g := (mkF m 178 #[.val (.int p1), .val (.int p2), .val (.int p3), .val (.int p4), .val (.int p5), .val (.ref b1), .val (.ref b2_3_32), .val (.ref b2_3_60), .val (.int (1 : Int32)), .val (.int (sp24 p1 p5)), .val (.int (1 : Int32)), .unset] [(.int (0 : Int32)), (.ref b2_3_60)])) rfl rfl (hb hby at_178) _ ?_
            show Steps p.tables e below (T68.setTop (mkF m 179 #[.val (.int p1), .val (.int p2), .val (.int p3), .val (.int p4), .val (.int p5), .val (.ref b1), .val (.ref b2_3_32), .val (.ref b2_3_60), .val (.int (1 : Int32)), .val (.int (sp24 p1 p5)), .val (.int (1 : Int32)), .unset] [(.int (0 : Int32))])) _
            refine XS.ifNo X68.here hx rfl (hb hby at_179) rfl ((if0 _ _).trans (teq (by decide : (0 : Int32) = (0 : Int32))).2) ?_
            refine XS.iconst X68.here hx rfl (hb hby at_182) ?_
            refine XS.goto X68.here hx rfl (pc0 := 183) (pc' := 187) rfl (hb hby at_183) (by decide) (by decide) ?_
            refine XS.istore X68.here hx rfl (hb hby at_187) rfl (l' := #[.val (.int p1), .val (.int p2), .val (.int p3), .val (.int p4), .val (.int p5), .val (.ref b1), .val (.ref b2_3_32), .val (.ref b2_3_60), .val (.int (1 : Int32)), .val (.int (sp24 p1 p5)), .val (.int (1 : Int32)), .val (.int (1 : Int32))]) rfl ?_
            show Steps p.tables e below (T68.setTop (mkF m 189 #[.val (.int p1), .val (.int p2), .val (.int p3), .val (.int p4), .val (.int p5), .val (.ref b1), .val (.ref b2_3_32), .val (.ref b2_3_60), .val (.int (1 : Int32)), .val (.int (sp24 p1 p5)), .val (.int (1 : Int32)), .val (.int (1 : Int32))] [])) _
            refine XS.goto X68.here hx rfl (pc0 := 189) (pc' := 235) rfl (hb hby at_189) (by decide) (by decide) ?_
            refine XS.iload X68.here hx rfl (hb hby at_235) rfl ?_
            show Steps p.tables e below (T68.setTop (mkF m 237 #[.val (.int p1), .val (.int p2), .val (.int p3), .val (.int p4), .val (.int p5), .val (.ref b1), .val (.ref b2_3_32), .val (.ref b2_3_60), .val (.int (1 : Int32)), .val (.int (sp24 p1 p5)), .val (.int (1 : Int32)), .val (.int (1 : Int32))] [(.int (1 : Int32))])) _
            refine XS.ifNo X68.here hx rfl (hb hby at_237) rfl ((if0 _ _).trans (feq (by decide : ¬ ((1 : Int32) = (0 : Int32)))).1) ?_
            refine XS.iload X68.here hx rfl (hb hby at_240) rfl ?_
            show Steps p.tables e below (T68.setTop (mkF m 242 #[.val (.int p1), .val (.int p2), .val (.int p3), .val (.int p4), .val (.int p5), .val (.ref b1), .val (.ref b2_3_32), .val (.ref b2_3_60), .val (.int (1 : Int32)), .val (.int (sp24 p1 p5)), .val (.int (1 : Int32)), .val (.int (1 : Int32))] [(.int (1 : Int32))])) _
            refine XS.ifNo X68.here hx rfl (hb hby at_242) rfl ((if0 _ _).trans (feq (by decide : ¬ ((1 : Int32) = (0 : Int32)))).1) ?_
            refine XS.iconst X68.here hx rfl (hb hby at_245) ?_
            refine XS.goto X68.here hx rfl (pc0 := 246) (pc' := 250) rfl (hb hby at_246) (by decide) (by decide) ?_
            show Steps p.tables e below (T68.setTop (mkF m 250 #[.val (.int p1), .val (.int p2), .val (.int p3), .val (.int p4), .val (.int p5), .val (.ref b1), .val (.ref b2_3_32), .val (.ref b2_3_60), .val (.int (1 : Int32)), .val (.int (sp24 p1 p5)), .val (.int (1 : Int32)), .val (.int (1 : Int32))] [(.int (1 : Int32))])) _
            exact retN X68 hx (t := .boolean) Bd.returns (by simp) (hb hby at_250) hr
          · show Q0 Z p1 p2 p3 p4 p5 apr h0 n0 _ T68.heap _
            rw [e68]
            exact ⟨rfl, N68⟩
        · obtain ⟨_, _, ⟨T73, L73, k73, n73⟩, -, X73, ⟨Lc73, hQ73, l73, y73, z73⟩, st73⟩ := Jvm.LawKit.callS X64 hx (y := (⟨"com/example/kindgen/kindgen/core/document/RecordOrderMemberPinLaw", "pair", "(II)Z"⟩ : MethodName)) hown (mvT hZ (hw _ (List.mem_of_getElem? (i := 183) rfl))) (mvT hZ (hw _ (List.mem_of_getElem? (i := 184) rfl))) (mvT hZ (hw _ (List.mem_of_getElem? (i := 185) rfl))) (mvT hZ (hw _ (List.mem_of_getElem? (i := 186) rfl))) (by decide) (backOf (W := 0) (rm24 l Z a0 hw [] p1 p5 T60.heap n0 Z60) hZ (hw _ (List.mem_of_getElem? (i := 186) rfl)) (hw _ (List.mem_of_getElem? (i := 185) rfl)) (by decide) (by decide)) (g := (mkF m 115 #[.val (.int p1), .val (.int p2), .val (.int p3), .val (.int p4), .val (.int p5), .val (.ref b1), .val (.ref b2_3_32), .val (.ref b2_3_60), .val (.int (1 : Int32)), .unset, .unset, .unset] [(.int p5), (.int p1)])) rfl (by rw [hml]; rfl) (argsL := [(.int p1), (.int p5)]) (rest := []) (lenOf pd_17 rfl) rfl (by show 2 * 0 + _ ≤ _; exact Nat.le_of_eq rfl) (hb hby at_115) (fun _ _ => ⟨rfl, e64, (by decide : 11 + 0 ≤ _), (by decide : 74 + 0 ≤ _)⟩)
          dsimp only [Pt.U, Pt.locs, Pt.cells, Pt.slots] at X73 l73 y73 z73 st73 hQ73
          subst l73 y73 z73
          obtain ⟨rfl, N73q, e73⟩ := hQ73
          have N73 := Fr.app N64 N73q
          obtain ⟨cl_74, Ar_74, -, S_74, N_74, -, -⟩ := id c60_V_b2_3_32
          obtain ⟨cl_75, Ar_75, -, S_75, N_75, H_75, -⟩ := id c60_V_b2_3_32
          have hin_75 : ¬ ((0 : Int32) < 0 ∨ cl_75.slots.size ≤ ((0 : Int32)).toNatClampNeg) := inb_of S_75 ⟨by decide, by decide⟩
          have hat_75 : cl_75.slots[((0 : Int32)).toNatClampNeg]? = some (.int (1 : Int32)) := Has.at H_75 hin_75 rfl
          obtain ⟨cl_76, Ar_76, -, S_76, N_76, -, -⟩ := id t60_0
          obtain ⟨cl_77, Ar_77, -, S_77, N_77, H_77, -⟩ := id t60_0
          have hin_77 : ¬ ((0 : Int32) < 0 ∨ cl_77.slots.size ≤ ((0 : Int32)).toNatClampNeg) := inb_of S_77 ⟨by decide, by decide⟩
          have hat_77 : cl_77.slots[((0 : Int32)).toNatClampNeg]? = some (.int (0 : Int32)) := Has.at H_77 hin_77 rfl
          obtain ⟨fs, hr, hrun, hended, hW, hsame⟩ := X73.leave (v := some (.int (1 : Int32))) (fun h => by rw [Bd.returns] at h; cases h)
          refine ⟨_, _, pre65 _ ?_, hrun, hended, _, _, rfl, ?_, ⟨_, rfl⟩, hW, hsame.mono (by decide) (by decide)⟩
          · show Steps p.tables e below (T64.setTop (mkF m 94 #[.val (.int p1), .val (.int p2), .val (.int p3), .val (.int p4), .val (.int p5), .val (.ref b1), .val (.ref b2_3_32), .val (.ref b2_3_60), .unset, .unset, .unset, .unset] [(.int (sp24 p2 p4))])) _
            refine XS.ifYes X64.here hx rfl (pc0 := 94) (pc' := 105) rfl (hb hby at_94) rfl ((if0 _ _).trans (feq hc94_66).2) (by decide) (by decide) ?_
            refine XS.iconst X64.here hx rfl (hb hby at_105) ?_
            refine XS.goto X64.here hx rfl (pc0 := 106) (pc' := 110) rfl (hb hby at_106) (by decide) (by decide) ?_
            refine XS.istore X64.here hx rfl (hb hby at_110) rfl (l' := #[.val (.int p1), .val (.int p2), .val (.int p3), .val (.int p4), .val (.int p5), .val (.ref b1), .val (.ref b2_3_32), .val (.ref b2_3_60), .val (.int (1 : Int32)), .unset, .unset, .unset]) rfl ?_
            show Steps p.tables e below (T64.setTop (mkF m 112 #[.val (.int p1), .val (.int p2), .val (.int p3), .val (.int p4), .val (.int p5), .val (.ref b1), .val (.ref b2_3_32), .val (.ref b2_3_60), .val (.int (1 : Int32)), .unset, .unset, .unset] [])) _
            refine XS.iloadN X64.here hx rfl (hb hby at_112) rfl ?_
            refine XS.iload X64.here hx rfl (hb hby at_113) rfl ?_
            show Steps p.tables e below (T64.setTop (mkF m 115 #[.val (.int p1), .val (.int p2), .val (.int p3), .val (.int p4), .val (.int p5), .val (.ref b1), .val (.ref b2_3_32), .val (.ref b2_3_60), .val (.int (1 : Int32)), .unset, .unset, .unset] [(.int p5), (.int p1)])) _
            refine st73 _ ?_
            refine XS.istore X73.here hx rfl (hb hby at_118) rfl (l' := #[.val (.int p1), .val (.int p2), .val (.int p3), .val (.int p4), .val (.int p5), .val (.ref b1), .val (.ref b2_3_32), .val (.ref b2_3_60), .val (.int (1 : Int32)), .val (.int (sp24 p1 p5)), .unset, .unset]) rfl ?_
            refine XS.iload X73.here hx rfl (hb hby at_120) rfl ?_
            show Steps p.tables e below (T73.setTop (mkF m 122 #[.val (.int p1), .val (.int p2), .val (.int p3), .val (.int p4), .val (.int p5), .val (.ref b1), .val (.ref b2_3_32), .val (.ref b2_3_60), .val (.int (1 : Int32)), .val (.int (sp24 p1 p5)), .unset, .unset] [(.int (1 : Int32))])) _
            refine XS.ifNo X73.here hx rfl (hb hby at_122) rfl ((if0 _ _).trans (feq (by decide : ¬ ((1 : Int32) = (0 : Int32)))).1) ?_
            refine XS.aload X73.here hx rfl (hb hby at_125) rfl rfl ?_
            show Steps p.tables e below (T73.setTop (mkF m 127 #[.val (.int p1), .val (.int p2), .val (.int p3), .val (.int p4), .val (.int p5), .val (.ref b1), .val (.ref b2_3_32), .val (.ref b2_3_60), .val (.int (1 : Int32)), .val (.int (sp24 p1 p5)), .unset, .unset] [(.ref b2_3_32)])) _
            refine X73.arraylength hx (by rw [e73]; exact Ar_74.1) (State.isArrayOf_alike hZ.alike Ar_74.2.1) (g := (mkF m 127 #[.val (.int p1), .val (.int p2), .val (.int p3), .val (.int p4), .val (.int p5), .val (.ref b1), .val (.ref b2_3_32), .val (.ref b2_3_60), .val (.int (1 : Int32)), .val (.int (sp24 p1 p5)), .unset, .unset] [(.ref b2_3_32)])) rfl rfl (hb hby at_127) _ ?_
            rw [len_of S_74 N_74]
            refine XS.iconst X73.here hx rfl (hb hby at_128) ?_
            show Steps p.tables e below (T73.setTop (mkF m 129 #[.val (.int p1), .val (.int p2), .val (.int p3), .val (.int p4), .val (.int p5), .val (.ref b1), .val (.ref b2_3_32), .val (.ref b2_3_60), .val (.int (1 : Int32)), .val (.int (sp24 p1 p5)), .unset, .unset] [(.int (1 : Int32)), (.int (1 : Int32))])) _
            refine XS.icmpNo X73.here hx rfl (hb hby at_129) rfl (teq (by decide : (1 : Int32) = (1 : Int32))).2 ?_
            refine XS.aload X73.here hx rfl (hb hby at_132) rfl rfl ?_
            refine XS.iconst X73.here hx rfl (hb hby at_134) ?_
            show Steps p.tables e below (T73.setTop (mkF m 135 #[.val (.int p1), .val (.int p2), .val (.int p3), .val (.int p4), .val (.int p5), .val (.ref b1), .val (.ref b2_3_32), .val (.ref b2_3_60), .val (.int (1 : Int32)), .val (.int (sp24 p1 p5)), .unset, .unset] [(.int (0 : Int32)), (.ref b2_3_32)])) _
            refine X73.iaload hx (j := (0 : Int32)) (v := (.int (1 : Int32))) (by rw [e73]; exact Ar_75.1) (State.isArrayOf_alike hZ.alike Ar_75.2.1) Ar_75.2.2 hin_75 hat_75 (g := (mkF m 135 #[.val (.int p1), .val (.int p2), .val (.int p3), .val (.int p4), .val (.int p5), .val (.ref b1), .val (.ref b2_3_32), .val (.ref b2_3_60), .val (.int (1 : Int32)), .val (.int (sp24 p1 p5)), .unset, .unset] [(.int (0 : Int32)), (.ref b2_3_32)])) rfl rfl (hb hby at_135) _ ?_
            refine XS.iconst X73.here hx rfl (hb hby at_136) ?_
            show Steps p.tables e below (T73.setTop (mkF m 137 #[.val (.int p1), .val (.int p2), .val (.int p3), .val (.int p4), .val (.int p5), .val (.ref b1), .val (.ref b2_3_32), .val (.ref b2_3_60), .val (.int (1 : Int32)), .val (.int (sp24 p1 p5)), .unset, .unset] [(.int (1 : Int32)), (.int (1 : Int32))])) _
            refine XS.icmpNo X73.here hx rfl (hb hby at_137) rfl (teq (by decide : (1 : Int32) = (1 : Int32))).2 ?_
            refine XS.iconst X73.here hx rfl (hb hby at_140) ?_
            refine XS.goto X73.here hx rfl (pc0 := 141) (pc' := 145) rfl (hb hby at_141) (by decide) (by decide) ?_
            refine XS.istore X73.here hx rfl (hb hby at_145) rfl (l' := #[.val (.int p1), .val (.int p2), .val (.int p3), .val (.int p4), .val (.int p5), .val (.ref b1), .val (.ref b2_3_32), .val (.ref b2_3_60), .val (.int (1 : Int32)), .val (.int (sp24 p1 p5)), .val (.int (1 : Int32)), .unset]) rfl ?_
            show Steps p.tables e below (T73.setTop (mkF m 147 #[.val (.int p1), .val (.int p2), .val (.int p3), .val (.int p4), .val (.int p5), .val (.ref b1), .val (.ref b2_3_32), .val (.ref b2_3_60), .val (.int (1 : Int32)), .val (.int (sp24 p1 p5)), .val (.int (1 : Int32)), .unset] [])) _
            refine XS.goto X73.here hx rfl (pc0 := 147) (pc' := 163) rfl (hb hby at_147) (by decide) (by decide) ?_
            refine XS.iload X73.here hx rfl (hb hby at_163) rfl ?_
            show Steps p.tables e below (T73.setTop (mkF m 165 #[.val (.int p1), .val (.int p2), .val (.int p3), .val (.int p4), .val (.int p5), .val (.ref b1), .val (.ref b2_3_32), .val (.ref b2_3_60), .val (.int (1 : Int32)), .val (.int (sp24 p1 p5)), .val (.int (1 : Int32)), .unset] [(.int (sp24 p1 p5))])) _
            refine XS.ifNo X73.here hx rfl (hb hby at_165) rfl ((if0 _ _).trans (feq (fun q => hO0 (q1.mpr q))).1) ?_
            refine XS.aload X73.here hx rfl (hb hby at_168) rfl rfl ?_
            show Steps p.tables e below (T73.setTop (mkF m 170 #[.val (.int p1), .val (.int p2), .val (.int p3), .val (.int p4), .val (.int p5), .val (.ref b1), .val (.ref b2_3_32), .val (.ref b2_3_60), .val (.int (1 : Int32)), .val (.int (sp24 p1 p5)), .val (.int (1 : Int32)), .unset] [(.ref b2_3_60)])) _
            refine X73.arraylength hx (by rw [e73]; exact Ar_76.1) (State.isArrayOf_alike hZ.alike Ar_76.2.1) (g := (mkF m 170 #[.val (.int p1), .val (.int p2), .val (.int p3), .val (.int p4), .val (.int p5), .val (.ref b1), .val (.ref b2_3_32), .val (.ref b2_3_60), .val (.int (1 : Int32)), .val (.int (sp24 p1 p5)), .val (.int (1 : Int32)), .unset] [(.ref b2_3_60)])) rfl rfl (hb hby at_170) _ ?_
            rw [len_of S_76 N_76]
            refine XS.iconst X73.here hx rfl (hb hby at_171) ?_
            show Steps p.tables e below (T73.setTop (mkF m 172 #[.val (.int p1), .val (.int p2), .val (.int p3), .val (.int p4), .val (.int p5), .val (.ref b1), .val (.ref b2_3_32), .val (.ref b2_3_60), .val (.int (1 : Int32)), .val (.int (sp24 p1 p5)), .val (.int (1 : Int32)), .unset] [(.int (1 : Int32)), (.int (1 : Int32))])) _
            refine XS.icmpNo X73.here hx rfl (hb hby at_172) rfl (teq (by decide : (1 : Int32) = (1 : Int32))).2 ?_
            refine XS.aload X73.here hx rfl (hb hby at_175) rfl rfl ?_
            refine XS.iconst X73.here hx rfl (hb hby at_177) ?_
            show Steps p.tables e below (T73.setTop (mkF m 178 #[.val (.int p1), .val (.int p2), .val (.int p3), .val (.int p4), .val (.int p5), .val (.ref b1), .val (.ref b2_3_32), .val (.ref b2_3_60), .val (.int (1 : Int32)), .val (.int (sp24 p1 p5)), .val (.int (1 : Int32)), .unset] [(.int (0 : Int32)), (.ref b2_3_60)])) _
            refine X73.iaload hx (j := (0 : Int32)) (v := (.int (0 : Int32))) (by rw [e73]; exact Ar_77.1) (State.isArrayOf_alike hZ.alike Ar_77.2.1) Ar_77.2.2 hin_77 hat_77 (g := (mkF m 178 #[.val (.int p1), .val (.int p2), .val (.int p3), .val (.int p4), .val (.int p5), .val (.ref b1), .val (.ref b2_3_32), .val (.ref b2_3_60), .val (.int (1 : Int32)), .val (.int (sp24 p1 p5)), .val (.int (1 : Int32)), .unset] [(.int (0 : Int32)), (.ref b2_3_60)])) rfl rfl (hb hby at_178) _ ?_
            show Steps p.tables e below (T73.setTop (mkF m 179 #[.val (.int p1), .val (.int p2), .val (.int p3), .val (.int p4), .val (.int p5), .val (.ref b1), .val (.ref b2_3_32), .val (.ref b2_3_60), .val (.int (1 : Int32)), .val (.int (sp24 p1 p5)), .val (.int (1 : Int32)), .unset] [(.int (0 : Int32))])) _
            refine XS.ifNo X73.here hx rfl (hb hby at_179) rfl ((if0 _ _).trans (teq (by decide : (0 : Int32) = (0 : Int32))).2) ?_
            refine XS.iconst X73.here hx rfl (hb hby at_182) ?_
            refine XS.goto X73.here hx rfl (pc0 := 183) (pc' := 187) rfl (hb hby at_183) (by decide) (by decide) ?_
            refine XS.istore X73.here hx rfl (hb hby at_187) rfl (l' := #[.val (.int p1), .val (.int p2), .val (.int p3), .val (.int p4), .val (.int p5), .val (.ref b1), .val (.ref b2_3_32), .val (.ref b2_3_60), .val (.int (1 : Int32)), .val (.int (sp24 p1 p5)), .val (.int (1 : Int32)), .val (.int (1 : Int32))]) rfl ?_
            show Steps p.tables e below (T73.setTop (mkF m 189 #[.val (.int p1), .val (.int p2), .val (.int p3), .val (.int p4), .val (.int p5), .val (.ref b1), .val (.ref b2_3_32), .val (.ref b2_3_60), .val (.int (1 : Int32)), .val (.int (sp24 p1 p5)), .val (.int (1 : Int32)), .val (.int (1 : Int32))] [])) _
            refine XS.goto X73.here hx rfl (pc0 := 189) (pc' := 235) rfl (hb hby at_189) (by decide) (by decide) ?_
            refine XS.iload X73.here hx rfl (hb hby at_235) rfl ?_
            show Steps p.tables e below (T73.setTop (mkF m 237 #[.val (.int p1), .val (.int p2), .val (.int p3), .val (.int p4), .val (.int p5), .val (.ref b1), .val (.ref b2_3_32), .val (.ref b2_3_60), .val (.int (1 : Int32)), .val (.int (sp24 p1 p5)), .val (.int (1 : Int32)), .val (.int (1 : Int32))] [(.int (1 : Int32))])) _
            refine XS.ifNo X73.here hx rfl (hb hby at_237) rfl ((if0 _ _).trans (feq (by decide : ¬ ((1 : Int32) = (0 : Int32)))).1) ?_
            refine XS.iload X73.here hx rfl (hb hby at_240) rfl ?_
            show Steps p.tables e below (T73.setTop (mkF m 242 #[.val (.int p1), .val (.int p2), .val (.int p3), .val (.int p4), .val (.int p5), .val (.ref b1), .val (.ref b2_3_32), .val (.ref b2_3_60), .val (.int (1 : Int32)), .val (.int (sp24 p1 p5)), .val (.int (1 : Int32)), .val (.int (1 : Int32))] [(.int (1 : Int32))])) _
            refine XS.ifNo X73.here hx rfl (hb hby at_242) rfl ((if0 _ _).trans (feq (by decide : ¬ ((1 : Int32) = (0 : Int32)))).1) ?_
            refine XS.iconst X73.here hx rfl (hb hby at_245) ?_
            refine XS.goto X73.here hx rfl (pc0 := 246) (pc' := 250) rfl (hb hby at_246) (by decide) (by decide) ?_
            show Steps p.tables e below (T73.setTop (mkF m 250 #[.val (.int p1), .val (.int p2), .val (.int p3), .val (.int p4), .val (.int p5), .val (.ref b1), .val (.ref b2_3_32), .val (.ref b2_3_60), .val (.int (1 : Int32)), .val (.int (sp24 p1 p5)), .val (.int (1 : Int32)), .val (.int (1 : Int32))] [(.int (1 : Int32))])) _
            exact retN X73 hx (t := .boolean) Bd.returns (by simp) (hb hby at_250) hr
          · show Q0 Z p1 p2 p3 p4 p5 apr h0 n0 _ T73.heap _
            rw [e73]
            exact ⟨rfl, N73⟩
      · obtain ⟨_, _, ⟨T78, L78, k78, n78⟩, -, X78, ⟨Lc78, hQ78, l78, y78, z78⟩, st78⟩ := Jvm.LawKit.callS X61 hx (y := (⟨"com/example/kindgen/kindgen/core/document/RecordOrderMemberPinLaw", "pair", "(II)Z"⟩ : MethodName)) hown (mvT hZ (hw _ (List.mem_of_getElem? (i := 183) rfl))) (mvT hZ (hw _ (List.mem_of_getElem? (i := 184) rfl))) (mvT hZ (hw _ (List.mem_of_getElem? (i := 185) rfl))) (mvT hZ (hw _ (List.mem_of_getElem? (i := 186) rfl))) (by decide) (backOf (W := 0) (rm24 l Z a0 hw [] p1 p5 T60.heap n0 Z60) hZ (hw _ (List.mem_of_getElem? (i := 186) rfl)) (hw _ (List.mem_of_getElem? (i := 185) rfl)) (by decide) (by decide)) (g := (mkF m 115 #[.val (.int p1), .val (.int p2), .val (.int p3), .val (.int p4), .val (.int p5), .val (.ref b1), .val (.ref b2_3_32), .val (.ref b2_3_60), .val (.int (1 : Int32)), .unset, .unset, .unset] [(.int p5), (.int p1)])) rfl (by rw [hml]; rfl) (argsL := [(.int p1), (.int p5)]) (rest := []) (lenOf pd_17 rfl) rfl (by show 2 * 0 + _ ≤ _; exact Nat.le_of_eq rfl) (hb hby at_115) (fun _ _ => ⟨rfl, e61, (by decide : 11 + 0 ≤ _), (by decide : 74 + 0 ≤ _)⟩)
        dsimp only [Pt.U, Pt.locs, Pt.cells, Pt.slots] at X78 l78 y78 z78 st78 hQ78
        subst l78 y78 z78
        obtain ⟨rfl, N78q, e78⟩ := hQ78
        have N78 := Fr.app N61 N78q
        obtain ⟨cl_79, Ar_79, -, S_79, N_79, -, -⟩ := id c60_V_b2_3_32
        obtain ⟨cl_80, Ar_80, -, S_80, N_80, H_80, -⟩ := id c60_V_b2_3_32
        have hin_80 : ¬ ((0 : Int32) < 0 ∨ cl_80.slots.size ≤ ((0 : Int32)).toNatClampNeg) := inb_of S_80 ⟨by decide, by decide⟩
        have hat_80 : cl_80.slots[((0 : Int32)).toNatClampNeg]? = some (.int (1 : Int32)) := Has.at H_80 hin_80 rfl
        obtain ⟨cl_81, Ar_81, -, S_81, N_81, -, -⟩ := id t60_0
        obtain ⟨cl_82, Ar_82, -, S_82, N_82, H_82, -⟩ := id t60_0
        have hin_82 : ¬ ((0 : Int32) < 0 ∨ cl_82.slots.size ≤ ((0 : Int32)).toNatClampNeg) := inb_of S_82 ⟨by decide, by decide⟩
        have hat_82 : cl_82.slots[((0 : Int32)).toNatClampNeg]? = some (.int (0 : Int32)) := Has.at H_82 hin_82 rfl
        obtain ⟨fs, hr, hrun, hended, hW, hsame⟩ := X78.leave (v := some (.int (1 : Int32))) (fun h => by rw [Bd.returns] at h; cases h)
        refine ⟨_, _, pre62 _ ?_, hrun, hended, _, _, rfl, ?_, ⟨_, rfl⟩, hW, hsame.mono (by decide) (by decide)⟩
        · show Steps p.tables e below (T61.setTop (mkF m 86 #[.val (.int p1), .val (.int p2), .val (.int p3), .val (.int p4), .val (.int p5), .val (.ref b1), .val (.ref b2_3_32), .val (.ref b2_3_60), .unset, .unset, .unset, .unset] [(.int (sp24 p2 p3))])) _
          refine XS.ifYes X61.here hx rfl (pc0 := 86) (pc' := 105) rfl (hb hby at_86) rfl ((if0 _ _).trans (feq hc86_63).2) (by decide) (by decide) ?_
          refine XS.iconst X61.here hx rfl (hb hby at_105) ?_
          refine XS.goto X61.here hx rfl (pc0 := 106) (pc' := 110) rfl (hb hby at_106) (by decide) (by decide) ?_
          refine XS.istore X61.here hx rfl (hb hby at_110) rfl (l' := #[.val (.int p1), .val (.int p2), .val (.int p3), .val (.int p4), .val (.int p5), .val (.ref b1), .val (.ref b2_3_32), .val (.ref b2_3_60), .val (.int (1 : Int32)), .unset, .unset, .unset]) rfl ?_
          show Steps p.tables e below (T61.setTop (mkF m 112 #[.val (.int p1), .val (.int p2), .val (.int p3), .val (.int p4), .val (.int p5), .val (.ref b1), .val (.ref b2_3_32), .val (.ref b2_3_60), .val (.int (1 : Int32)), .unset, .unset, .unset] [])) _
          refine XS.iloadN X61.here hx rfl (hb hby at_112) rfl ?_
          refine XS.iload X61.here hx rfl (hb hby at_113) rfl ?_
          show Steps p.tables e below (T61.setTop (mkF m 115 #[.val (.int p1), .val (.int p2), .val (.int p3), .val (.int p4), .val (.int p5), .val (.ref b1), .val (.ref b2_3_32), .val (.ref b2_3_60), .val (.int (1 : Int32)), .unset, .unset, .unset] [(.int p5), (.int p1)])) _
          refine st78 _ ?_
          refine XS.istore X78.here hx rfl (hb hby at_118) rfl (l' := #[.val (.int p1), .val (.int p2), .val (.int p3), .val (.int p4), .val (.int p5), .val (.ref b1), .val (.ref b2_3_32), .val (.ref b2_3_60), .val (.int (1 : Int32)), .val (.int (sp24 p1 p5)), .unset, .unset]) rfl ?_
          refine XS.iload X78.here hx rfl (hb hby at_120) rfl ?_
          show Steps p.tables e below (T78.setTop (mkF m 122 #[.val (.int p1), .val (.int p2), .val (.int p3), .val (.int p4), .val (.int p5), .val (.ref b1), .val (.ref b2_3_32), .val (.ref b2_3_60), .val (.int (1 : Int32)), .val (.int (sp24 p1 p5)), .unset, .unset] [(.int (1 : Int32))])) _
          refine XS.ifNo X78.here hx rfl (hb hby at_122) rfl ((if0 _ _).trans (feq (by decide : ¬ ((1 : Int32) = (0 : Int32)))).1) ?_
          refine XS.aload X78.here hx rfl (hb hby at_125) rfl rfl ?_
          show Steps p.tables e below (T78.setTop (mkF m 127 #[.val (.int p1), .val (.int p2), .val (.int p3), .val (.int p4), .val (.int p5), .val (.ref b1), .val (.ref b2_3_32), .val (.ref b2_3_60), .val (.int (1 : Int32)), .val (.int (sp24 p1 p5)), .unset, .unset] [(.ref b2_3_32)])) _
          refine X78.arraylength hx (by rw [e78]; exact Ar_79.1) (State.isArrayOf_alike hZ.alike Ar_79.2.1) (g := (mkF m 127 #[.val (.int p1), .val (.int p2), .val (.int p3), .val (.int p4), .val (.int p5), .val (.ref b1), .val (.ref b2_3_32), .val (.ref b2_3_60), .val (.int (1 : Int32)), .val (.int (sp24 p1 p5)), .unset, .unset] [(.ref b2_3_32)])) rfl rfl (hb hby at_127) _ ?_
          rw [len_of S_79 N_79]
          refine XS.iconst X78.here hx rfl (hb hby at_128) ?_
          show Steps p.tables e below (T78.setTop (mkF m 129 #[.val (.int p1), .val (.int p2), .val (.int p3), .val (.int p4), .val (.int p5), .val (.ref b1), .val (.ref b2_3_32), .val (.ref b2_3_60), .val (.int (1 : Int32)), .val (.int (sp24 p1 p5)), .unset, .unset] [(.int (1 : Int32)), (.int (1 : Int32))])) _
          refine XS.icmpNo X78.here hx rfl (hb hby at_129) rfl (teq (by decide : (1 : Int32) = (1 : Int32))).2 ?_
          refine XS.aload X78.here hx rfl (hb hby at_132) rfl rfl ?_
          refine XS.iconst X78.here hx rfl (hb hby at_134) ?_
          show Steps p.tables e below (T78.setTop (mkF m 135 #[.val (.int p1), .val (.int p2), .val (.int p3), .val (.int p4), .val (.int p5), .val (.ref b1), .val (.ref b2_3_32), .val (.ref b2_3_60), .val (.int (1 : Int32)), .val (.int (sp24 p1 p5)), .unset, .unset] [(.int (0 : Int32)), (.ref b2_3_32)])) _
          refine X78.iaload hx (j := (0 : Int32)) (v := (.int (1 : Int32))) (by rw [e78]; exact Ar_80.1) (State.isArrayOf_alike hZ.alike Ar_80.2.1) Ar_80.2.2 hin_80 hat_80 (g := (mkF m 135 #[.val (.int p1), .val (.int p2), .val (.int p3), .val (.int p4), .val (.int p5), .val (.ref b1), .val (.ref b2_3_32), .val (.ref b2_3_60), .val (.int (1 : Int32)), .val (.int (sp24 p1 p5)), .unset, .unset] [(.int (0 : Int32)), (.ref b2_3_32)])) rfl rfl (hb hby at_135) _ ?_
          refine XS.iconst X78.here hx rfl (hb hby at_136) ?_
          show Steps p.tables e below (T78.setTop (mkF m 137 #[.val (.int p1), .val (.int p2), .val (.int p3), .val (.int p4), .val (.int p5), .val (.ref b1), .val (.ref b2_3_32), .val (.ref b2_3_60), .val (.int (1 : Int32)), .val (.int (sp24 p1 p5)), .unset, .unset] [(.int (1 : Int32)), (.int (1 : Int32))])) _
          refine XS.icmpNo X78.here hx rfl (hb hby at_137) rfl (teq (by decide : (1 : Int32) = (1 : Int32))).2 ?_
          refine XS.iconst X78.here hx rfl (hb hby at_140) ?_
          refine XS.goto X78.here hx rfl (pc0 := 141) (pc' := 145) rfl (hb hby at_141) (by decide) (by decide) ?_
          refine XS.istore X78.here hx rfl (hb hby at_145) rfl (l' := #[.val (.int p1), .val (.int p2), .val (.int p3), .val (.int p4), .val (.int p5), .val (.ref b1), .val (.ref b2_3_32), .val (.ref b2_3_60), .val (.int (1 : Int32)), .val (.int (sp24 p1 p5)), .val (.int (1 : Int32)), .unset]) rfl ?_
          show Steps p.tables e below (T78.setTop (mkF m 147 #[.val (.int p1), .val (.int p2), .val (.int p3), .val (.int p4), .val (.int p5), .val (.ref b1), .val (.ref b2_3_32), .val (.ref b2_3_60), .val (.int (1 : Int32)), .val (.int (sp24 p1 p5)), .val (.int (1 : Int32)), .unset] [])) _
          refine XS.goto X78.here hx rfl (pc0 := 147) (pc' := 163) rfl (hb hby at_147) (by decide) (by decide) ?_
          refine XS.iload X78.here hx rfl (hb hby at_163) rfl ?_
          show Steps p.tables e below (T78.setTop (mkF m 165 #[.val (.int p1), .val (.int p2), .val (.int p3), .val (.int p4), .val (.int p5), .val (.ref b1), .val (.ref b2_3_32), .val (.ref b2_3_60), .val (.int (1 : Int32)), .val (.int (sp24 p1 p5)), .val (.int (1 : Int32)), .unset] [(.int (sp24 p1 p5))])) _
          refine XS.ifNo X78.here hx rfl (hb hby at_165) rfl ((if0 _ _).trans (feq (fun q => hO0 (q1.mpr q))).1) ?_
          refine XS.aload X78.here hx rfl (hb hby at_168) rfl rfl ?_
          show Steps p.tables e below (T78.setTop (mkF m 170 #[.val (.int p1), .val (.int p2), .val (.int p3), .val (.int p4), .val (.int p5), .val (.ref b1), .val (.ref b2_3_32), .val (.ref b2_3_60), .val (.int (1 : Int32)), .val (.int (sp24 p1 p5)), .val (.int (1 : Int32)), .unset] [(.ref b2_3_60)])) _
          refine X78.arraylength hx (by rw [e78]; exact Ar_81.1) (State.isArrayOf_alike hZ.alike Ar_81.2.1) (g := (mkF m 170 #[.val (.int p1), .val (.int p2), .val (.int p3), .val (.int p4), .val (.int p5), .val (.ref b1), .val (.ref b2_3_32), .val (.ref b2_3_60), .val (.int (1 : Int32)), .val (.int (sp24 p1 p5)), .val (.int (1 : Int32)), .unset] [(.ref b2_3_60)])) rfl rfl (hb hby at_170) _ ?_
          rw [len_of S_81 N_81]
          refine XS.iconst X78.here hx rfl (hb hby at_171) ?_
          show Steps p.tables e below (T78.setTop (mkF m 172 #[.val (.int p1), .val (.int p2), .val (.int p3), .val (.int p4), .val (.int p5), .val (.ref b1), .val (.ref b2_3_32), .val (.ref b2_3_60), .val (.int (1 : Int32)), .val (.int (sp24 p1 p5)), .val (.int (1 : Int32)), .unset] [(.int (1 : Int32)), (.int (1 : Int32))])) _
          refine XS.icmpNo X78.here hx rfl (hb hby at_172) rfl (teq (by decide : (1 : Int32) = (1 : Int32))).2 ?_
          refine XS.aload X78.here hx rfl (hb hby at_175) rfl rfl ?_
          refine XS.iconst X78.here hx rfl (hb hby at_177) ?_
          show Steps p.tables e below (T78.setTop (mkF m 178 #[.val (.int p1), .val (.int p2), .val (.int p3), .val (.int p4), .val (.int p5), .val (.ref b1), .val (.ref b2_3_32), .val (.ref b2_3_60), .val (.int (1 : Int32)), .val (.int (sp24 p1 p5)), .val (.int (1 : Int32)), .unset] [(.int (0 : Int32)), (.ref b2_3_60)])) _
          refine X78.iaload hx (j := (0 : Int32)) (v := (.int (0 : Int32))) (by rw [e78]; exact Ar_82.1) (State.isArrayOf_alike hZ.alike Ar_82.2.1) Ar_82.2.2 hin_82 hat_82 (g := (mkF m 178 #[.val (.int p1), .val (.int p2), .val (.int p3), .val (.int p4), .val (.int p5), .val (.ref b1), .val (.ref b2_3_32), .val (.ref b2_3_60), .val (.int (1 : Int32)), .val (.int (sp24 p1 p5)), .val (.int (1 : Int32)), .unset] [(.int (0 : Int32)), (.ref b2_3_60)])) rfl rfl (hb hby at_178) _ ?_
          show Steps p.tables e below (T78.setTop (mkF m 179 #[.val (.int p1), .val (.int p2), .val (.int p3), .val (.int p4), .val (.int p5), .val (.ref b1), .val (.ref b2_3_32), .val (.ref b2_3_60), .val (.int (1 : Int32)), .val (.int (sp24 p1 p5)), .val (.int (1 : Int32)), .unset] [(.int (0 : Int32))])) _
          refine XS.ifNo X78.here hx rfl (hb hby at_179) rfl ((if0 _ _).trans (teq (by decide : (0 : Int32) = (0 : Int32))).2) ?_
          refine XS.iconst X78.here hx rfl (hb hby at_182) ?_
          refine XS.goto X78.here hx rfl (pc0 := 183) (pc' := 187) rfl (hb hby at_183) (by decide) (by decide) ?_
          refine XS.istore X78.here hx rfl (hb hby at_187) rfl (l' := #[.val (.int p1), .val (.int p2), .val (.int p3), .val (.int p4), .val (.int p5), .val (.ref b1), .val (.ref b2_3_32), .val (.ref b2_3_60), .val (.int (1 : Int32)), .val (.int (sp24 p1 p5)), .val (.int (1 : Int32)), .val (.int (1 : Int32))]) rfl ?_
          show Steps p.tables e below (T78.setTop (mkF m 189 #[.val (.int p1), .val (.int p2), .val (.int p3), .val (.int p4), .val (.int p5), .val (.ref b1), .val (.ref b2_3_32), .val (.ref b2_3_60), .val (.int (1 : Int32)), .val (.int (sp24 p1 p5)), .val (.int (1 : Int32)), .val (.int (1 : Int32))] [])) _
          refine XS.goto X78.here hx rfl (pc0 := 189) (pc' := 235) rfl (hb hby at_189) (by decide) (by decide) ?_
          refine XS.iload X78.here hx rfl (hb hby at_235) rfl ?_
          show Steps p.tables e below (T78.setTop (mkF m 237 #[.val (.int p1), .val (.int p2), .val (.int p3), .val (.int p4), .val (.int p5), .val (.ref b1), .val (.ref b2_3_32), .val (.ref b2_3_60), .val (.int (1 : Int32)), .val (.int (sp24 p1 p5)), .val (.int (1 : Int32)), .val (.int (1 : Int32))] [(.int (1 : Int32))])) _
          refine XS.ifNo X78.here hx rfl (hb hby at_237) rfl ((if0 _ _).trans (feq (by decide : ¬ ((1 : Int32) = (0 : Int32)))).1) ?_
          refine XS.iload X78.here hx rfl (hb hby at_240) rfl ?_
          show Steps p.tables e below (T78.setTop (mkF m 242 #[.val (.int p1), .val (.int p2), .val (.int p3), .val (.int p4), .val (.int p5), .val (.ref b1), .val (.ref b2_3_32), .val (.ref b2_3_60), .val (.int (1 : Int32)), .val (.int (sp24 p1 p5)), .val (.int (1 : Int32)), .val (.int (1 : Int32))] [(.int (1 : Int32))])) _
          refine XS.ifNo X78.here hx rfl (hb hby at_242) rfl ((if0 _ _).trans (feq (by decide : ¬ ((1 : Int32) = (0 : Int32)))).1) ?_
          refine XS.iconst X78.here hx rfl (hb hby at_245) ?_
          refine XS.goto X78.here hx rfl (pc0 := 246) (pc' := 250) rfl (hb hby at_246) (by decide) (by decide) ?_
          show Steps p.tables e below (T78.setTop (mkF m 250 #[.val (.int p1), .val (.int p2), .val (.int p3), .val (.int p4), .val (.int p5), .val (.ref b1), .val (.ref b2_3_32), .val (.ref b2_3_60), .val (.int (1 : Int32)), .val (.int (sp24 p1 p5)), .val (.int (1 : Int32)), .val (.int (1 : Int32))] [(.int (1 : Int32))])) _
          exact retN X78 hx (t := .boolean) Bd.returns (by simp) (hb hby at_250) hr
        · show Q0 Z p1 p2 p3 p4 p5 apr h0 n0 _ T78.heap _
          rw [e78]
          exact ⟨rfl, N78⟩
set_option maxRecDepth 65536 in
set_option maxHeartbeats 40000000 in
theorem comes_1 {Post : Tables → Env → Array Value → State → Outcome → State → Prop} (hpost : ∀ tb e args s v u, (limb_1_1.after args s (.returned v) u = true ∧ limb_1_2.after args s (.returned v) u = true ∧ True) → FrameEnd s (.returned v) u (Jvm.fieldLocs frame_1_writes args s ++ Jvm.arrayLocs frame_1_arrays args s ++ Jvm.staticLocs frame_1_statics s) 32 256 → Post tb e args s (.returned v) u) :
    ArmFor flags0 classFile x code maxLocals ret World_1 tables_1 room_1 Calls_1 rest_1 Pre_1 Post := by
  intro l hfl _ _ p e ha hc hk s m args below hf hA hF happ hP
  obtain ⟨hcalls, hrest, hpre⟩ := hP
  obtain ⟨-, -, -, hnamed, -, -, -, hat⟩ := (Spec.applies_iff hf).mp happ
  obtain ⟨hg, hn⟩ := and_e (Cond.before_iff.mp (show (Jvm.Cond.and given_1 narrow_1).before args s = true from hpre))
  obtain ⟨g0, gr0⟩ := and_e hg
  obtain ⟨g1, gr1⟩ := and_e gr0
  obtain ⟨g2, gr2⟩ := and_e gr1
  obtain ⟨g3, gr3⟩ := and_e gr2
  obtain ⟨g4, g5⟩ := and_e gr3
  obtain ⟨w0, w1, w2, w3, w4, rfl⟩ : ∃ w0 w1 w2 w3 w4 : Value, args = #[w0, w1, w2, w3, w4] := by
    have hs : args.size = 5 := by simpa [Cond.value, given_1] using g0
    obtain ⟨L⟩ := args
    match L, hs with
    | [w0, w1, w2, w3, w4], _ => exact ⟨w0, w1, w2, w3, w4, rfl⟩
  have hw := fun d (hd : d ∈ tables_1) => atoms_spec (ws := Jvm.Cond.code x code maxLocals ret :: tables_1) hat d (List.mem_cons_of_mem _ hd)
  have hfit : Fit s := fun {y c} hc i hi => by
    obtain ⟨ha, rfl⟩ := Array.getElem?_eq_some_iff.mp hc
    have q := List.all_eq_true.mp ((Array.all_eq_true_iff_forall_mem.mp hF) _ (Array.getElem_mem ha)) i (List.mem_range.mpr hi)
    simpa [Array.getElem?_eq_getElem hi] using q
  obtain ⟨hsets, hown0⟩ := atoms_of _ (rest_1_c_eq ▸ (show rest_1_c.before _ s = true from hrest))
  obtain ⟨i0, ei0⟩ := is_v g1
  obtain rfl : w0 = (.int i0) := Option.some.inj ei0
  obtain ⟨i1, ei1⟩ := is_v g2
  obtain rfl : w1 = (.int i1) := Option.some.inj ei1
  obtain ⟨i2, ei2⟩ := is_v g3
  obtain rfl : w2 = (.int i2) := Option.some.inj ei2
  obtain ⟨i3, ei3⟩ := is_v g4
  obtain rfl : w3 = (.int i3) := Option.some.inj ei3
  obtain ⟨i4, ei4⟩ := is_v g5
  obtain rfl : w4 = (.int i4) := Option.some.inj ei4
  obtain ⟨apr, eap⟩ := exa_v (Cond.before_iff.mp (hsets _ (List.mem_of_getElem? (i := 2) rfl)))
  have S_PRESENT : Sta s s.heap "java/util/HashSet" "PRESENT" "Ljava/lang/Object;" (.ref apr) := Sta.start eap (Or.inl (hsets _ (List.mem_of_getElem? (i := 1) rfl)))
  obtain ⟨n, o, h1, h2, h3, _, L, rfl, ⟨rfl, N⟩, hq⟩ := rm0 l s _ hw tables_1 i0 i1 i2 i3 i4 apr s.heap s.heap.size (Nat.le_refl _) (Old.start s) S_PRESENT p e ha hc hk s m _ below hf ((Spec.applies_iff_loose hf).mp happ).1 ⟨rfl, State.Warmed39.refl s, rfl⟩ trivial
  refine ⟨n, _, h1, h2, h3, hpost _ _ _ _ _ _ ⟨Cond.after_iff.mpr rfl, Cond.after_iff.mpr (eq_i res_at (Term.int_eval (1)) rfl), trivial⟩ ⟨hq.1, hq.2.1, (hq.2.2.sift fun y hy => Or.inr (N y hy)).mono (by decide) (by decide)⟩⟩
theorem main_1_1 : Claimed_1_1 := comes_1 fun _ _ _ _ _ _ h hF => ⟨h.1, hF⟩
theorem main_1_2 : Claimed_1_2 := comes_1 fun _ _ _ _ _ _ h hF => ⟨h.2.1, hF⟩
end Jvm.Pilot.@@N@@
namespace Jvm.Pilot.@@N@@
open Jvm Jvm.ClassFile Sem Op Lib Jvm.Free Jvm.Stand Jvm.Pilot.@@N@@.Jvm.D
/-! MADE BY PROGRAM (witnessworld.py) out of the Statement's table words and the real class files: 26 classes; the members and pool entries that the words name. The judged class is class 1, her method 2. -/
namespace start1
open Jvm.ClassFile
def u (s : String) : CpInfo := .utf8 (stringToUtf16 s)
/-- a pool by its gaps: so many unusable entries, then the entry; so many at the end -/
def gap : Nat → List CpInfo → List CpInfo
  | 0, r => r
  | n + 1, r => .unusable :: gap n r
def poolList (es : List (Nat × CpInfo)) (last : Nat) : List CpInfo := es.foldr (fun e r => gap e.1 (e.2 :: r)) (gap last [])
def pool (es : List (Nat × CpInfo)) (last : Nat) : Array CpInfo := ⟨poolList es last⟩
def fileOf (pool : Array CpInfo) (this : Nat) (attrs : Array Attribute := #[]) (ms : Array MethodInfo := #[]) (fl : Nat := 33) (sup : Nat := 0) (ifs : Array Nat := #[]) (fds : Array FieldInfo := #[]) : ClassFile where
  minorVersion := 0
  majorVersion := 65
  constantPool := pool
  accessFlags := fl
  thisClass := this
  superClass := sup
  interfaces := ifs
  fields := fds
  methods := ms
  attributes := attrs
def plain (name : String) (sup : Option ClassId) : Class where
  name := name
  kind := .ordinary
  loader := none
  accessFlags := 33
  super := sup
  interfaces := #[]
  cf := none
  fields := #[]
  methods := #[]
  instanceTypes := #[]
  staticTypes := #[]
  resolved := #[]
  callSites := []
  init := .initialized
  statics := none
  mirror := none

def pool0 : Array CpInfo := pool [(5, u "<init>"), (0, u "()V"), (1, .class_ 10), (1, u "java/lang/Object")] 113

def k0c0 : Code := { maxStack := 0, maxLocals := 1, code := object_method_1_code, exceptionTable := #[], attributes := #[] }
def k0m0 : Method := { name := "<init>", desc := "()V", sig := { parameters := [], returnType := none }, accessFlags := 1, code := some k0c0 }
/-- java/lang/Object -/
def k0 : Class := { plain "java/lang/Object" none with
  accessFlags := 33
  interfaces := #[]
  cf := some (fileOf pool0 8 #[] #[{ accessFlags := 1, nameIndex := 5, descriptorIndex := 6, attributes := #[] }] 33 0 #[] #[])
  fields := #[]
  methods := #[k0m0]
  instanceTypes := #[]
  staticTypes := #[]
  resolved := Array.replicate 124 none
  statics := none }

def pool1 : Array CpInfo := pool [(2, .class_ 4), (1, u "java/lang/Object"), (0, u "<init>"), (0, u "()V"), (0, .class_ 8), (0, u "com/example/kindgen/kindgen/core/document/RecordOrder"), (0, .methodref 7 10), (0, .nameAndType 5 11), (0, u "(J)V"), (0, .methodref 7 13), (0, .nameAndType 14 15), (0, u "start"), (0, u "(Lcom/example/kindgen/kindgen/runtime/RecordShape;J)V"), (0, .methodref 7 17), (0, .nameAndType 18 19), (0, u "member"), (0, u "(I)V"), (0, .methodref 7 21), (0, .nameAndType 22 11), (0, u "end"), (0, .methodref 7 24), (0, .nameAndType 25 26), (0, u "held"), (0, u "()[I"), (0, .methodref 28 29), (0, .class_ 30), (0, .nameAndType 31 32), (0, u "com/example/kindgen/kindgen/core/document/RecordOrderMemberPinLaw"), (0, u "pair"), (0, u "(II)Z"), (3, u "law"), (0, u "(IIIII)Z")] 4

def k1m0 : Method := { name := "<init>", desc := "()V", sig := { parameters := [], returnType := none }, accessFlags := 2, code := none }
def k1c1 : Code := { maxStack := 2, maxLocals := 2, code := method_2_code, exceptionTable := #[], attributes := #[] }
def k1m1 : Method := { name := "pair", desc := "(II)Z", sig := { parameters := [.int, .int], returnType := some .boolean }, accessFlags := 10, code := some k1c1 }
def k1c2 : Code := { maxStack := 4, maxLocals := 12, code := code, exceptionTable := #[], attributes := #[] }
def k1m2 : Method := { name := "law", desc := "(IIIII)Z", sig := { parameters := [.int, .int, .int, .int, .int], returnType := some .boolean }, accessFlags := 9, code := some k1c2 }
/-- com/example/kindgen/kindgen/core/document/RecordOrderMemberPinLaw -/
def k1 : Class := { plain "com/example/kindgen/kindgen/core/document/RecordOrderMemberPinLaw" (some 0) with
  accessFlags := 49
  interfaces := #[]
  cf := some (fileOf pool1 28 #[] #[{ accessFlags := 2, nameIndex := 5, descriptorIndex := 6, attributes := #[] }, { accessFlags := 10, nameIndex := 31, descriptorIndex := 32, attributes := #[] }, { accessFlags := 9, nameIndex := 36, descriptorIndex := 37, attributes := #[] }] 49 2 #[] #[])
  fields := #[]
  methods := #[k1m0, k1m1, k1m2]
  instanceTypes := #[]
  staticTypes := #[]
  resolved := Array.replicate 42 none
  statics := none }

def pool2 : Array CpInfo := pool [(1, .class_ 2), (0, u "com/example/kindgen/kindgen/core/document/RecordOrder"), (4, u "<init>"), (0, u "(J)V"), (0, .methodref 10 11), (0, .class_ 12), (0, .nameAndType 7 13), (0, u "java/lang/Object"), (0, u "()V"), (0, .class_ 15), (0, u "java/util/HashSet"), (0, .methodref 14 11), (0, .fieldref 1 18), (0, .nameAndType 19 20), (0, u "outOfOrder"), (0, u "Ljava/util/Set;"), (0, .fieldref 1 22), (0, .nameAndType 23 24), (0, u "held"), (0, u "[I"), (0, .class_ 26), (0, u "com/example/kindgen/kindgen/core/document/RecordOrder$Level"), (0, .fieldref 1 28), (0, .nameAndType 29 30), (0, u "levels"), (0, u "[Lcom/example/kindgen/kindgen/core/document/RecordOrder$Level;"), (0, .fieldref 1 32), (0, .nameAndType 33 34), (0, u "longBytes"), (0, u "J"), (0, .fieldref 1 36), (0, .nameAndType 37 38), (0, u "started"), (0, u "I"), (1, .class_ 42), (1, u "java/util/Set"), (1, .fieldref 1 45), (0, .nameAndType 46 38), (0, u "heldCount"), (0, .fieldref 1 48), (0, .nameAndType 49 38), (0, u "depth"), (1, .class_ 53), (1, u "java/util/Arrays"), (0, u "copyOf"), (2, .methodref 25 11), (0, .fieldref 25 59), (0, .nameAndType 60 38), (0, u "number"), (0, .fieldref 25 62), (0, .nameAndType 63 64), (0, u "record"), (0, u "Lcom/example/kindgen/kindgen/runtime/RecordShape;"), (0, .fieldref 25 66), (0, .nameAndType 67 34), (0, u "start"), (0, .fieldref 25 69), (0, .nameAndType 70 38), (0, u "lastDeclared"), (0, .fieldref 25 72), (0, .nameAndType 73 74), (0, u "kept"), (0, u "Z"), (0, .fieldref 25 76), (0, .nameAndType 77 74), (0, u "out"), (0, .interfaceMethodref 40 79), (0, .nameAndType 80 81), (0, u "add"), (0, u "(Ljava/lang/Object;)Z"), (0, .methodref 1 83), (0, .nameAndType 84 85), (0, u "isLong"), (0, u "(JJ)Z"), (0, .methodref 51 87), (0, .nameAndType 54 88), (0, u "([II)[I"), (3, u "LONG"), (5, u "(Lcom/example/kindgen/kindgen/runtime/RecordShape;J)V"), (1, u "member"), (0, u "(I)V"), (0, u "end"), (1, u "()[I")] 5

def k2m0 : Method := { name := "<init>", desc := "()V", sig := { parameters := [], returnType := none }, accessFlags := 0, code := none }
def k2c1 : Code := { maxStack := 3, maxLocals := 3, code := prog_72_method_2_code, exceptionTable := #[], attributes := #[] }
def k2m1 : Method := { name := "<init>", desc := "(J)V", sig := { parameters := [.long], returnType := none }, accessFlags := 0, code := some k2c1 }
def k2c2 : Code := { maxStack := 4, maxLocals := 5, code := prog_72_method_4_code, exceptionTable := #[], attributes := #[] }
def k2m2 : Method := { name := "start", desc := "(Lcom/example/kindgen/kindgen/runtime/RecordShape;J)V", sig := { parameters := [(.object "com/example/kindgen/kindgen/runtime/RecordShape"), .long], returnType := none }, accessFlags := 0, code := some k2c2 }
def k2c3 : Code := { maxStack := 4, maxLocals := 3, code := prog_72_method_5_code, exceptionTable := #[], attributes := #[] }
def k2m3 : Method := { name := "member", desc := "(I)V", sig := { parameters := [.int], returnType := none }, accessFlags := 0, code := some k2c3 }
def k2c4 : Code := { maxStack := 5, maxLocals := 4, code := prog_72_method_6_code, exceptionTable := #[], attributes := #[] }
def k2m4 : Method := { name := "end", desc := "(J)V", sig := { parameters := [.long], returnType := none }, accessFlags := 0, code := some k2c4 }
def k2c5 : Code := { maxStack := 4, maxLocals := 5, code := prog_72_method_7_code, exceptionTable := #[], attributes := #[] }
def k2m5 : Method := { name := "isLong", desc := "(JJ)Z", sig := { parameters := [.long, .long], returnType := some .boolean }, accessFlags := 0, code := some k2c5 }
def k2c6 : Code := { maxStack := 2, maxLocals := 1, code := prog_72_method_9_code, exceptionTable := #[], attributes := #[] }
def k2m6 : Method := { name := "held", desc := "()[I", sig := { parameters := [], returnType := some (.array .int) }, accessFlags := 0, code := some k2c6 }
/-- com/example/kindgen/kindgen/core/document/RecordOrder -/
def k2 : Class := { plain "com/example/kindgen/kindgen/core/document/RecordOrder" (some 0) with
  accessFlags := 32
  interfaces := #[]
  cf := some (fileOf pool2 1 #[.nestMembers #[25]] #[{ accessFlags := 0, nameIndex := 7, descriptorIndex := 13, attributes := #[] }, { accessFlags := 0, nameIndex := 7, descriptorIndex := 8, attributes := #[] }, { accessFlags := 0, nameIndex := 67, descriptorIndex := 98, attributes := #[] }, { accessFlags := 0, nameIndex := 100, descriptorIndex := 101, attributes := #[] }, { accessFlags := 0, nameIndex := 102, descriptorIndex := 8, attributes := #[] }, { accessFlags := 0, nameIndex := 84, descriptorIndex := 85, attributes := #[] }, { accessFlags := 0, nameIndex := 23, descriptorIndex := 104, attributes := #[] }] 32 10 #[] #[{ accessFlags := 24, nameIndex := 92, descriptorIndex := 34, attributes := #[] }, { accessFlags := 18, nameIndex := 33, descriptorIndex := 34, attributes := #[] }, { accessFlags := 2, nameIndex := 37, descriptorIndex := 38, attributes := #[] }, { accessFlags := 18, nameIndex := 19, descriptorIndex := 20, attributes := #[] }, { accessFlags := 2, nameIndex := 23, descriptorIndex := 24, attributes := #[] }, { accessFlags := 2, nameIndex := 46, descriptorIndex := 38, attributes := #[] }, { accessFlags := 2, nameIndex := 29, descriptorIndex := 30, attributes := #[] }, { accessFlags := 2, nameIndex := 49, descriptorIndex := 38, attributes := #[] }])
  fields := #[{ name := "LONG", type := .long, accessFlags := 24, slot := 0, constantValue := 0 }, { name := "longBytes", type := .long, accessFlags := 18, slot := 0, constantValue := 0 }, { name := "started", type := .int, accessFlags := 2, slot := 1, constantValue := 0 }, { name := "outOfOrder", type := (.object "java/util/Set"), accessFlags := 18, slot := 2, constantValue := 0 }, { name := "held", type := (.array .int), accessFlags := 2, slot := 3, constantValue := 0 }, { name := "heldCount", type := .int, accessFlags := 2, slot := 4, constantValue := 0 }, { name := "levels", type := (.array (.object "com/example/kindgen/kindgen/core/document/RecordOrder$Level")), accessFlags := 2, slot := 5, constantValue := 0 }, { name := "depth", type := .int, accessFlags := 2, slot := 6, constantValue := 0 }]
  methods := #[k2m0, k2m1, k2m2, k2m3, k2m4, k2m5, k2m6]
  instanceTypes := #[.long, .int, (.object "java/util/Set"), (.array .int), .int, (.array (.object "com/example/kindgen/kindgen/core/document/RecordOrder$Level")), .int]
  staticTypes := #[.long]
  resolved := (((((((((Array.replicate 110 none).setIfInBounds 25 (some (.cls 14))).setIfInBounds 57 (some (.method ⟨14, 0⟩))).setIfInBounds 58 (some (.field 14 0))).setIfInBounds 61 (some (.field 14 1))).setIfInBounds 65 (some (.field 14 2))).setIfInBounds 68 (some (.field 14 3))).setIfInBounds 71 (some (.field 14 4))).setIfInBounds 75 (some (.field 14 5)))
  statics := none }

def pool3 : Array CpInfo := pool [(8, .class_ 10), (1, u "java/lang/Iterable"), (24, .class_ 36), (0, u "java/lang/Object")] 25

/-- java/lang/Iterable -/
def k3 : Class := { plain "java/lang/Iterable" (some 0) with
  accessFlags := 1537
  interfaces := #[]
  cf := some (fileOf pool3 8 #[] #[] 1537 35 #[] #[])
  fields := #[]
  methods := #[]
  instanceTypes := #[]
  staticTypes := #[]
  resolved := Array.replicate 62 none
  statics := none }

def pool4 : Array CpInfo := pool [(10, .class_ 12), (1, u "java/util/Collection"), (47, .class_ 61), (0, u "java/lang/Object"), (0, .class_ 63), (0, u "java/lang/Iterable")] 51

/-- java/util/Collection -/
def k4 : Class := { plain "java/util/Collection" (some 0) with
  accessFlags := 1537
  interfaces := #[3]
  cf := some (fileOf pool4 10 #[] #[] 1537 60 #[62] #[])
  fields := #[]
  methods := #[]
  instanceTypes := #[]
  staticTypes := #[]
  resolved := Array.replicate 115 none
  statics := none }

def pool5 : Array CpInfo := pool [(1, .methodref 2 3), (0, .class_ 4), (0, .nameAndType 5 6), (0, u "java/lang/Object"), (0, u "<init>"), (0, u "()V"), (1, .class_ 10), (1, u "java/util/AbstractCollection"), (66, .class_ 78), (0, u "java/util/Collection")] 81

def k5c0 : Code := { maxStack := 1, maxLocals := 1, code := jdk_22_method_1_code, exceptionTable := #[], attributes := #[] }
def k5m0 : Method := { name := "<init>", desc := "()V", sig := { parameters := [], returnType := none }, accessFlags := 4, code := some k5c0 }
/-- java/util/AbstractCollection -/
def k5 : Class := { plain "java/util/AbstractCollection" (some 0) with
  accessFlags := 1057
  interfaces := #[4]
  cf := some (fileOf pool5 8 #[] #[{ accessFlags := 4, nameIndex := 5, descriptorIndex := 6, attributes := #[] }] 1057 2 #[77] #[])
  fields := #[]
  methods := #[k5m0]
  instanceTypes := #[]
  staticTypes := #[]
  resolved := Array.replicate 160 none
  statics := none }

def pool6 : Array CpInfo := pool [(26, .class_ 27), (0, u "java/lang/Object"), (5, .class_ 34), (0, u "java/util/Set"), (1, .class_ 38), (1, u "java/util/Collection"), (21, u "(Ljava/lang/Object;)Z"), (6, u "add")] 76

def k6m0 : Method := { name := "add", desc := "(Ljava/lang/Object;)Z", sig := { parameters := [(.object "java/lang/Object")], returnType := some .boolean }, accessFlags := 1025, code := none }
/-- java/util/Set -/
def k6 : Class := { plain "java/util/Set" (some 0) with
  accessFlags := 1537
  interfaces := #[4]
  cf := some (fileOf pool6 33 #[] #[{ accessFlags := 1025, nameIndex := 67, descriptorIndex := 60, attributes := #[] }] 1537 26 #[36] #[])
  fields := #[]
  methods := #[k6m0]
  instanceTypes := #[]
  staticTypes := #[]
  resolved := Array.replicate 144 none
  statics := none }

def pool7 : Array CpInfo := pool [(1, .methodref 2 3), (0, .class_ 4), (0, .nameAndType 5 6), (0, u "java/util/AbstractCollection"), (0, u "<init>"), (0, u "()V"), (0, .class_ 8), (0, u "java/util/Set"), (7, .class_ 17), (0, u "java/util/AbstractSet")] 78

def k7c0 : Code := { maxStack := 1, maxLocals := 1, code := jdk_91_method_1_code, exceptionTable := #[], attributes := #[] }
def k7m0 : Method := { name := "<init>", desc := "()V", sig := { parameters := [], returnType := none }, accessFlags := 4, code := some k7c0 }
/-- java/util/AbstractSet -/
def k7 : Class := { plain "java/util/AbstractSet" (some 5) with
  accessFlags := 1057
  interfaces := #[6]
  cf := some (fileOf pool7 16 #[] #[{ accessFlags := 4, nameIndex := 5, descriptorIndex := 6, attributes := #[] }] 1057 2 #[7] #[])
  fields := #[]
  methods := #[k7m0]
  instanceTypes := #[]
  staticTypes := #[]
  resolved := Array.replicate 96 none
  statics := none }

def pool8 : Array CpInfo := pool [(1, .class_ 2), (0, u "java/lang/Cloneable"), (0, .class_ 4), (0, u "java/lang/Object")] 2

/-- java/lang/Cloneable -/
def k8 : Class := { plain "java/lang/Cloneable" (some 0) with
  accessFlags := 1537
  interfaces := #[]
  cf := some (fileOf pool8 1 #[] #[] 1537 3 #[] #[])
  fields := #[]
  methods := #[]
  instanceTypes := #[]
  staticTypes := #[]
  resolved := Array.replicate 7 none
  statics := none }

def pool9 : Array CpInfo := pool [(1, .class_ 2), (0, u "java/io/Serializable"), (0, .class_ 4), (0, u "java/lang/Object")] 2

/-- java/io/Serializable -/
def k9 : Class := { plain "java/io/Serializable" (some 0) with
  accessFlags := 1537
  interfaces := #[]
  cf := some (fileOf pool9 1 #[] #[] 1537 3 #[] #[])
  fields := #[]
  methods := #[]
  instanceTypes := #[]
  staticTypes := #[]
  resolved := Array.replicate 7 none
  statics := none }

def pool10 : Array CpInfo := pool [(1, .methodref 2 3), (0, .class_ 4), (0, .nameAndType 5 6), (0, u "java/util/AbstractSet"), (0, u "<init>"), (0, u "()V"), (0, .class_ 8), (0, u "java/util/HashMap"), (0, .methodref 7 3), (0, .fieldref 11 12), (0, .class_ 13), (0, .nameAndType 14 15), (0, u "java/util/HashSet"), (0, u "map"), (0, u "Ljava/util/HashMap;"), (34, .class_ 52), (1, u "java/util/Set"), (10, u "(Ljava/lang/Object;)Z"), (0, .fieldref 11 65), (0, .nameAndType 66 67), (0, u "PRESENT"), (0, u "Ljava/lang/Object;"), (0, .methodref 7 69), (0, .nameAndType 70 71), (0, u "put"), (0, u "(Ljava/lang/Object;Ljava/lang/Object;)Ljava/lang/Object;"), (154, .class_ 227), (0, u "java/lang/Cloneable"), (0, .class_ 229), (0, u "java/io/Serializable"), (0, u "serialVersionUID"), (0, u "J"), (26, u "add")] 44

def k10c0 : Code := { maxStack := 3, maxLocals := 1, code := jdk_93_method_1_code, exceptionTable := #[], attributes := #[] }
def k10m0 : Method := { name := "<init>", desc := "()V", sig := { parameters := [], returnType := none }, accessFlags := 1, code := some k10c0 }
def k10c1 : Code := { maxStack := 3, maxLocals := 2, code := jdk_93_method_10_code, exceptionTable := #[], attributes := #[] }
def k10m1 : Method := { name := "add", desc := "(Ljava/lang/Object;)Z", sig := { parameters := [(.object "java/lang/Object")], returnType := some .boolean }, accessFlags := 1, code := some k10c1 }
/-- java/util/HashSet -/
def k10 : Class := { plain "java/util/HashSet" (some 7) with
  accessFlags := 33
  interfaces := #[6, 8, 9]
  cf := some (fileOf pool10 11 #[] #[{ accessFlags := 1, nameIndex := 5, descriptorIndex := 6, attributes := #[] }, { accessFlags := 1, nameIndex := 258, descriptorIndex := 63, attributes := #[] }] 33 2 #[50, 226, 228] #[{ accessFlags := 24, nameIndex := 230, descriptorIndex := 231, attributes := #[] }, { accessFlags := 128, nameIndex := 14, descriptorIndex := 15, attributes := #[] }, { accessFlags := 24, nameIndex := 66, descriptorIndex := 67, attributes := #[] }])
  fields := #[{ name := "serialVersionUID", type := .long, accessFlags := 24, slot := 0, constantValue := 0 }, { name := "map", type := (.object "java/util/HashMap"), accessFlags := 128, slot := 0, constantValue := 0 }, { name := "PRESENT", type := (.object "java/lang/Object"), accessFlags := 24, slot := 1, constantValue := 0 }]
  methods := #[k10m0, k10m1]
  instanceTypes := #[(.object "java/util/HashMap")]
  staticTypes := #[.long, (.object "java/lang/Object")]
  resolved := Array.replicate 303 none
  statics := some 0 }

def pool11 : Array CpInfo := pool [(2, .class_ 4), (1, u "java/util/Map"), (31, .class_ 37), (0, u "java/util/Map$Entry"), (55, .class_ 94), (0, u "java/lang/Object")] 168

/-- java/util/Map -/
def k11 : Class := { plain "java/util/Map" (some 0) with
  accessFlags := 1537
  interfaces := #[]
  cf := some (fileOf pool11 2 #[.nestMembers #[36]] #[] 1537 93 #[] #[])
  fields := #[]
  methods := #[]
  instanceTypes := #[]
  staticTypes := #[]
  resolved := Array.replicate 263 none
  statics := none }

def pool12 : Array CpInfo := pool [(1, .methodref 2 3), (0, .class_ 4), (0, .nameAndType 5 6), (0, u "java/lang/Object"), (0, u "<init>"), (0, u "()V"), (1, .class_ 10), (1, u "java/util/AbstractMap"), (42, .class_ 54), (0, u "java/util/Map"), (9, u "keySet"), (0, u "Ljava/util/Set;"), (0, .class_ 67), (0, u "java/util/AbstractMap$1"), (5, u "values"), (0, u "Ljava/util/Collection;"), (0, .class_ 76), (0, u "java/util/AbstractMap$2"), (104, .class_ 182), (0, u "java/util/AbstractMap$ViewCollection"), (0, .class_ 184), (0, u "java/util/AbstractMap$SimpleImmutableEntry"), (0, .class_ 186), (0, u "java/util/AbstractMap$SimpleEntry"), (0, .class_ 188), (0, u "java/util/AbstractMap$2$1"), (0, .class_ 190), (0, u "java/util/AbstractMap$1$1")] 5

def k12c0 : Code := { maxStack := 1, maxLocals := 1, code := jdk_71_method_1_code, exceptionTable := #[], attributes := #[] }
def k12m0 : Method := { name := "<init>", desc := "()V", sig := { parameters := [], returnType := none }, accessFlags := 4, code := some k12c0 }
/-- java/util/AbstractMap -/
def k12 : Class := { plain "java/util/AbstractMap" (some 0) with
  accessFlags := 1057
  interfaces := #[11]
  cf := some (fileOf pool12 8 #[.nestMembers #[181, 183, 185, 75, 187, 66, 189]] #[{ accessFlags := 4, nameIndex := 5, descriptorIndex := 6, attributes := #[] }] 1057 2 #[53] #[{ accessFlags := 128, nameIndex := 64, descriptorIndex := 65, attributes := #[] }, { accessFlags := 128, nameIndex := 73, descriptorIndex := 74, attributes := #[] }])
  fields := #[{ name := "keySet", type := (.object "java/util/Set"), accessFlags := 128, slot := 0, constantValue := 0 }, { name := "values", type := (.object "java/util/Collection"), accessFlags := 128, slot := 1, constantValue := 0 }]
  methods := #[k12m0]
  instanceTypes := #[(.object "java/util/Set"), (.object "java/util/Collection")]
  staticTypes := #[]
  resolved := Array.replicate 196 none
  statics := none }

def pool13 : Array CpInfo := pool [(33, u "(Ljava/lang/Object;)I"), (6, .class_ 41), (0, u "java/util/HashMap"), (1, .methodref 44 45), (0, .class_ 46), (0, .nameAndType 47 48), (0, u "java/util/AbstractMap"), (0, u "<init>"), (0, u "()V"), (32, .fieldref 40 82), (0, .nameAndType 83 84), (0, u "loadFactor"), (0, u "F"), (3, .fieldref 40 89), (0, .nameAndType 90 91), (0, u "threshold"), (0, u "I"), (0, .float 1061158912), (8, .class_ 103), (1, u "java/util/Map"), (0, u "size"), (0, .fieldref 40 106), (0, .nameAndType 107 108), (0, u "table"), (0, u "[Ljava/util/HashMap$Node;"), (8, .methodref 40 118), (0, .nameAndType 119 120), (0, u "resize"), (0, u "()[Ljava/util/HashMap$Node;"), (2, u "entrySet"), (25, .methodref 40 150), (0, .nameAndType 151 33), (0, u "hash"), (0, .methodref 40 153), (0, .nameAndType 154 155), (0, u "putVal"), (0, u "(ILjava/lang/Object;Ljava/lang/Object;ZZ)Ljava/lang/Object;"), (0, .fieldref 40 157), (0, .nameAndType 104 91), (4, .fieldref 163 164), (0, .class_ 165), (0, .nameAndType 166 167), (0, u "java/util/HashMap$Node"), (0, u "value"), (0, u "Ljava/lang/Object;"), (0, .fieldref 163 169), (0, .nameAndType 151 91), (0, .fieldref 163 171), (0, .nameAndType 172 167), (0, u "key"), (7, .class_ 181), (0, u "java/util/HashMap$TreeNode"), (4, .methodref 40 187), (0, .nameAndType 188 189), (0, u "newNode"), (0, u "(ILjava/lang/Object;Ljava/lang/Object;Ljava/util/HashMap$Node;)Ljava/util/HashMap$Node;"), (8, .methodref 40 199), (0, .nameAndType 200 201), (0, u "afterNodeAccess"), (0, u "(Ljava/util/HashMap$Node;)V"), (0, .fieldref 40 203), (0, .nameAndType 204 91), (0, u "modCount"), (0, .methodref 40 206), (0, .nameAndType 207 208), (0, u "afterNodeInsertion"), (0, u "(Z)V"), (33, u "Ljava/util/Set;"), (0, .class_ 244), (0, u "java/util/HashMap$KeySet"), (18, .class_ 264), (0, u "java/util/HashMap$Values"), (3, .class_ 269), (0, u "java/util/HashMap$EntrySet"), (17, u "(Ljava/lang/Object;Ljava/lang/Object;)Ljava/lang/Object;"), (58, .class_ 348), (1, u "java/util/HashMap$UnsafeHolder"), (26, .methodref 163 376), (0, .nameAndType 47 377), (0, u "(ILjava/lang/Object;Ljava/lang/Object;Ljava/util/HashMap$Node;)V"), (14, .class_ 393), (0, u "java/lang/Cloneable"), (0, .class_ 395), (0, u "java/io/Serializable"), (0, u "serialVersionUID"), (0, u "J"), (3, u "DEFAULT_INITIAL_CAPACITY"), (1, u "MAXIMUM_CAPACITY"), (0, u "DEFAULT_LOAD_FACTOR"), (0, u "TREEIFY_THRESHOLD"), (1, u "UNTREEIFY_THRESHOLD"), (1, u "MIN_TREEIFY_CAPACITY"), (60, u "put"), (125, .class_ 597), (0, u "java/util/HashMap$EntrySpliterator"), (0, .class_ 599), (0, u "java/util/HashMap$ValueSpliterator"), (0, .class_ 601), (0, u "java/util/HashMap$KeySpliterator"), (0, .class_ 603), (0, u "java/util/HashMap$HashMapSpliterator"), (0, .class_ 605), (0, u "java/util/HashMap$EntryIterator"), (0, .class_ 607), (0, u "java/util/HashMap$ValueIterator"), (0, .class_ 609), (0, u "java/util/HashMap$KeyIterator"), (0, .class_ 611), (0, u "java/util/HashMap$HashIterator")] 17

def k13c0 : Code := { maxStack := 3, maxLocals := 2, code := jdk_69_method_1_code, exceptionTable := #[], attributes := #[] }
def k13m0 : Method := { name := "hash", desc := "(Ljava/lang/Object;)I", sig := { parameters := [(.object "java/lang/Object")], returnType := some .int }, accessFlags := 24, code := some k13c0 }
def k13c1 : Code := { maxStack := 2, maxLocals := 1, code := jdk_69_method_7_code, exceptionTable := #[], attributes := #[] }
def k13m1 : Method := { name := "<init>", desc := "()V", sig := { parameters := [], returnType := none }, accessFlags := 1, code := some k13c1 }
def k13c2 : Code := { maxStack := 6, maxLocals := 3, code := jdk_69_method_15_code, exceptionTable := #[], attributes := #[] }
def k13m2 : Method := { name := "put", desc := "(Ljava/lang/Object;Ljava/lang/Object;)Ljava/lang/Object;", sig := { parameters := [(.object "java/lang/Object"), (.object "java/lang/Object")], returnType := some (.object "java/lang/Object") }, accessFlags := 1, code := some k13c2 }
def k13c3 : Code := { maxStack := 7, maxLocals := 13, code := jdk_69_method_16_code, exceptionTable := #[], attributes := #[] }
def k13m3 : Method := { name := "putVal", desc := "(ILjava/lang/Object;Ljava/lang/Object;ZZ)Ljava/lang/Object;", sig := { parameters := [.int, (.object "java/lang/Object"), (.object "java/lang/Object"), .boolean, .boolean], returnType := some (.object "java/lang/Object") }, accessFlags := 16, code := some k13c3 }
def k13c4 : Code := { maxStack := 5, maxLocals := 14, code := jdk_69_method_17_code, exceptionTable := #[], attributes := #[] }
def k13m4 : Method := { name := "resize", desc := "()[Ljava/util/HashMap$Node;", sig := { parameters := [], returnType := some (.array (.object "java/util/HashMap$Node")) }, accessFlags := 16, code := some k13c4 }
def k13c5 : Code := { maxStack := 6, maxLocals := 5, code := jdk_69_method_46_code, exceptionTable := #[], attributes := #[] }
def k13m5 : Method := { name := "newNode", desc := "(ILjava/lang/Object;Ljava/lang/Object;Ljava/util/HashMap$Node;)Ljava/util/HashMap$Node;", sig := { parameters := [.int, (.object "java/lang/Object"), (.object "java/lang/Object"), (.object "java/util/HashMap$Node")], returnType := some (.object "java/util/HashMap$Node") }, accessFlags := 0, code := some k13c5 }
def k13c6 : Code := { maxStack := 0, maxLocals := 2, code := jdk_69_method_51_code, exceptionTable := #[], attributes := #[] }
def k13m6 : Method := { name := "afterNodeAccess", desc := "(Ljava/util/HashMap$Node;)V", sig := { parameters := [(.object "java/util/HashMap$Node")], returnType := none }, accessFlags := 0, code := some k13c6 }
def k13c7 : Code := { maxStack := 0, maxLocals := 2, code := jdk_69_method_52_code, exceptionTable := #[], attributes := #[] }
def k13m7 : Method := { name := "afterNodeInsertion", desc := "(Z)V", sig := { parameters := [.boolean], returnType := none }, accessFlags := 0, code := some k13c7 }
/-- java/util/HashMap -/
def k13 : Class := { plain "java/util/HashMap" (some 12) with
  accessFlags := 33
  interfaces := #[11, 8, 9]
  cf := some (fileOf pool13 40 #[.nestMembers #[180, 596, 598, 600, 602, 604, 606, 608, 610, 346, 268, 263, 243, 163]] #[{ accessFlags := 24, nameIndex := 151, descriptorIndex := 33, attributes := #[] }, { accessFlags := 1, nameIndex := 47, descriptorIndex := 48, attributes := #[] }, { accessFlags := 1, nameIndex := 470, descriptorIndex := 287, attributes := #[] }, { accessFlags := 16, nameIndex := 154, descriptorIndex := 155, attributes := #[] }, { accessFlags := 16, nameIndex := 119, descriptorIndex := 120, attributes := #[] }, { accessFlags := 0, nameIndex := 188, descriptorIndex := 189, attributes := #[] }, { accessFlags := 0, nameIndex := 200, descriptorIndex := 201, attributes := #[] }, { accessFlags := 0, nameIndex := 207, descriptorIndex := 208, attributes := #[] }] 33 44 #[101, 392, 394] #[{ accessFlags := 26, nameIndex := 396, descriptorIndex := 397, attributes := #[] }, { accessFlags := 24, nameIndex := 401, descriptorIndex := 91, attributes := #[] }, { accessFlags := 24, nameIndex := 403, descriptorIndex := 91, attributes := #[] }, { accessFlags := 24, nameIndex := 404, descriptorIndex := 84, attributes := #[] }, { accessFlags := 24, nameIndex := 405, descriptorIndex := 91, attributes := #[] }, { accessFlags := 24, nameIndex := 407, descriptorIndex := 91, attributes := #[] }, { accessFlags := 24, nameIndex := 409, descriptorIndex := 91, attributes := #[] }, { accessFlags := 128, nameIndex := 107, descriptorIndex := 108, attributes := #[] }, { accessFlags := 128, nameIndex := 123, descriptorIndex := 242, attributes := #[] }, { accessFlags := 128, nameIndex := 104, descriptorIndex := 91, attributes := #[] }, { accessFlags := 128, nameIndex := 204, descriptorIndex := 91, attributes := #[] }, { accessFlags := 0, nameIndex := 90, descriptorIndex := 91, attributes := #[] }, { accessFlags := 16, nameIndex := 83, descriptorIndex := 84, attributes := #[] }])
  fields := #[{ name := "serialVersionUID", type := .long, accessFlags := 26, slot := 0, constantValue := 0 }, { name := "DEFAULT_INITIAL_CAPACITY", type := .int, accessFlags := 24, slot := 1, constantValue := 0 }, { name := "MAXIMUM_CAPACITY", type := .int, accessFlags := 24, slot := 2, constantValue := 0 }, { name := "DEFAULT_LOAD_FACTOR", type := .float, accessFlags := 24, slot := 3, constantValue := 0 }, { name := "TREEIFY_THRESHOLD", type := .int, accessFlags := 24, slot := 4, constantValue := 0 }, { name := "UNTREEIFY_THRESHOLD", type := .int, accessFlags := 24, slot := 5, constantValue := 0 }, { name := "MIN_TREEIFY_CAPACITY", type := .int, accessFlags := 24, slot := 6, constantValue := 0 }, { name := "table", type := (.array (.object "java/util/HashMap$Node")), accessFlags := 128, slot := 2, constantValue := 0 }, { name := "entrySet", type := (.object "java/util/Set"), accessFlags := 128, slot := 3, constantValue := 0 }, { name := "size", type := .int, accessFlags := 128, slot := 4, constantValue := 0 }, { name := "modCount", type := .int, accessFlags := 128, slot := 5, constantValue := 0 }, { name := "threshold", type := .int, accessFlags := 0, slot := 6, constantValue := 0 }, { name := "loadFactor", type := .float, accessFlags := 16, slot := 7, constantValue := 0 }]
  methods := #[k13m0, k13m1, k13m2, k13m3, k13m4, k13m5, k13m6, k13m7]
  instanceTypes := #[(.object "java/util/Set"), (.object "java/util/Collection"), (.array (.object "java/util/HashMap$Node")), (.object "java/util/Set"), .int, .int, .int, .float]
  staticTypes := #[.long, .int, .int, .float, .int, .int, .int]
  resolved := Array.replicate 629 none
  statics := none }

def pool14 : Array CpInfo := pool [(1, .methodref 2 3), (0, .class_ 4), (0, .nameAndType 5 6), (0, u "java/lang/Object"), (0, u "<init>"), (0, u "()V"), (0, .class_ 8), (0, u "com/example/kindgen/kindgen/core/document/RecordOrder$Level"), (0, u "number"), (0, u "I"), (0, u "record"), (0, u "Lcom/example/kindgen/kindgen/runtime/RecordShape;"), (0, u "start"), (0, u "J"), (0, u "lastDeclared"), (0, u "kept"), (0, u "Z"), (0, u "out"), (5, .class_ 25), (0, u "com/example/kindgen/kindgen/core/document/RecordOrder")] 2

def k14c0 : Code := { maxStack := 1, maxLocals := 1, code := prog_73_method_1_code, exceptionTable := #[], attributes := #[] }
def k14m0 : Method := { name := "<init>", desc := "()V", sig := { parameters := [], returnType := none }, accessFlags := 2, code := some k14c0 }
/-- com/example/kindgen/kindgen/core/document/RecordOrder$Level -/
def k14 : Class := { plain "com/example/kindgen/kindgen/core/document/RecordOrder$Level" (some 0) with
  accessFlags := 32
  interfaces := #[]
  cf := some (fileOf pool14 7 #[.nestHost 24] #[{ accessFlags := 2, nameIndex := 5, descriptorIndex := 6, attributes := #[] }] 32 2 #[] #[{ accessFlags := 2, nameIndex := 9, descriptorIndex := 10, attributes := #[] }, { accessFlags := 2, nameIndex := 11, descriptorIndex := 12, attributes := #[] }, { accessFlags := 2, nameIndex := 13, descriptorIndex := 14, attributes := #[] }, { accessFlags := 2, nameIndex := 15, descriptorIndex := 10, attributes := #[] }, { accessFlags := 2, nameIndex := 16, descriptorIndex := 17, attributes := #[] }, { accessFlags := 2, nameIndex := 18, descriptorIndex := 17, attributes := #[] }])
  fields := #[{ name := "number", type := .int, accessFlags := 2, slot := 0, constantValue := 0 }, { name := "record", type := (.object "com/example/kindgen/kindgen/runtime/RecordShape"), accessFlags := 2, slot := 1, constantValue := 0 }, { name := "start", type := .long, accessFlags := 2, slot := 2, constantValue := 0 }, { name := "lastDeclared", type := .int, accessFlags := 2, slot := 3, constantValue := 0 }, { name := "kept", type := .boolean, accessFlags := 2, slot := 4, constantValue := 0 }, { name := "out", type := .boolean, accessFlags := 2, slot := 5, constantValue := 0 }]
  methods := #[k14m0]
  instanceTypes := #[.int, (.object "com/example/kindgen/kindgen/runtime/RecordShape"), .long, .int, .boolean, .boolean]
  staticTypes := #[]
  resolved := Array.replicate 28 none
  statics := none }

def pool15 : Array CpInfo := pool [(23, .class_ 25), (1, u "java/util/Map$Entry"), (6, .class_ 34), (1, u "java/util/Map"), (34, .class_ 70), (0, u "java/lang/Object")] 107

/-- java/util/Map$Entry -/
def k15 : Class := { plain "java/util/Map$Entry" (some 0) with
  accessFlags := 1537
  interfaces := #[]
  cf := some (fileOf pool15 23 #[.nestHost 32] #[] 1537 69 #[] #[])
  fields := #[]
  methods := #[]
  instanceTypes := #[]
  staticTypes := #[]
  resolved := Array.replicate 178 none
  statics := none }

def pool16 : Array CpInfo := pool [(1, .methodref 2 3), (0, .class_ 4), (0, .nameAndType 5 6), (0, u "java/lang/Object"), (0, u "<init>"), (0, u "()V"), (0, .fieldref 8 9), (0, .class_ 10), (0, .nameAndType 11 12), (0, u "java/util/HashMap$Node"), (0, u "hash"), (0, u "I"), (0, .fieldref 8 14), (0, .nameAndType 15 16), (0, u "key"), (0, u "Ljava/lang/Object;"), (0, .fieldref 8 18), (0, .nameAndType 19 16), (0, u "value"), (0, .fieldref 8 21), (0, .nameAndType 22 23), (0, u "next"), (0, u "Ljava/util/HashMap$Node;"), (22, .class_ 47), (0, u "java/util/Map$Entry"), (15, u "(ILjava/lang/Object;Ljava/lang/Object;Ljava/util/HashMap$Node;)V"), (24, .class_ 89), (0, u "java/util/HashMap")] 5

def k16c0 : Code := { maxStack := 2, maxLocals := 5, code := jdk_70_method_1_code, exceptionTable := #[], attributes := #[] }
def k16m0 : Method := { name := "<init>", desc := "(ILjava/lang/Object;Ljava/lang/Object;Ljava/util/HashMap$Node;)V", sig := { parameters := [.int, (.object "java/lang/Object"), (.object "java/lang/Object"), (.object "java/util/HashMap$Node")], returnType := none }, accessFlags := 0, code := some k16c0 }
/-- java/util/HashMap$Node -/
def k16 : Class := { plain "java/util/HashMap$Node" (some 0) with
  accessFlags := 32
  interfaces := #[15]
  cf := some (fileOf pool16 8 #[.nestHost 88] #[{ accessFlags := 0, nameIndex := 5, descriptorIndex := 63, attributes := #[] }] 32 2 #[46] #[{ accessFlags := 16, nameIndex := 11, descriptorIndex := 12, attributes := #[] }, { accessFlags := 16, nameIndex := 15, descriptorIndex := 16, attributes := #[] }, { accessFlags := 0, nameIndex := 19, descriptorIndex := 16, attributes := #[] }, { accessFlags := 0, nameIndex := 22, descriptorIndex := 23, attributes := #[] }])
  fields := #[{ name := "hash", type := .int, accessFlags := 16, slot := 0, constantValue := 0 }, { name := "key", type := (.object "java/lang/Object"), accessFlags := 16, slot := 1, constantValue := 0 }, { name := "value", type := (.object "java/lang/Object"), accessFlags := 0, slot := 2, constantValue := 0 }, { name := "next", type := (.object "java/util/HashMap$Node"), accessFlags := 0, slot := 3, constantValue := 0 }]
  methods := #[k16m0]
  instanceTypes := #[.int, (.object "java/lang/Object"), (.object "java/lang/Object"), (.object "java/util/HashMap$Node")]
  staticTypes := #[]
  resolved := Array.replicate 95 none
  statics := none }

def pool17 : Array CpInfo := pool [(2, .class_ 4), (1, u "java/lang/Object"), (0, u "<init>"), (0, u "()V"), (7, .class_ 16), (1, u "java/util/Arrays"), (57, .class_ 76), (1, u "java/util/Arrays$NaturalOrder"), (36, .class_ 115), (1, u "java/util/Arrays$LegacyMergeSort"), (1, u "Z"), (32, .methodref 151 152), (0, .class_ 153), (0, .nameAndType 154 155), (0, u "java/lang/System"), (0, u "arraycopy"), (0, u "(Ljava/lang/Object;ILjava/lang/Object;II)V"), (146, u "copyOf"), (1, .methodref 305 306), (0, .class_ 307), (0, .nameAndType 308 309), (0, u "java/lang/Math"), (0, u "min"), (0, u "(II)I"), (65, .class_ 376), (0, u "java/util/Arrays$ArrayList"), (68, u "$assertionsDisabled"), (269, u "MIN_ARRAY_SORT_GRAN"), (0, u "I"), (2, u "INSERTIONSORT_THRESHOLD"), (151, u "([II)[I"), (103, .class_ 976), (0, u "java/util/Arrays$ArrayItr")] 52

def k17m0 : Method := { name := "<init>", desc := "()V", sig := { parameters := [], returnType := none }, accessFlags := 2, code := none }
def k17c1 : Code := { maxStack := 6, maxLocals := 3, code := jdk_65_method_123_code, exceptionTable := #[], attributes := #[] }
def k17m1 : Method := { name := "copyOf", desc := "([II)[I", sig := { parameters := [(.array .int), .int], returnType := some (.array .int) }, accessFlags := 9, code := some k17c1 }
/-- java/util/Arrays -/
def k17 : Class := { plain "java/util/Arrays" (some 0) with
  accessFlags := 49
  interfaces := #[]
  cf := some (fileOf pool17 14 #[.nestMembers #[975, 375, 113, 74]] #[{ accessFlags := 2, nameIndex := 5, descriptorIndex := 6, attributes := #[] }, { accessFlags := 9, nameIndex := 302, descriptorIndex := 871, attributes := #[] }] 49 2 #[] #[{ accessFlags := 26, nameIndex := 715, descriptorIndex := 716, attributes := #[] }, { accessFlags := 26, nameIndex := 719, descriptorIndex := 716, attributes := #[] }, { accessFlags := 4120, nameIndex := 445, descriptorIndex := 117, attributes := #[] }])
  fields := #[{ name := "MIN_ARRAY_SORT_GRAN", type := .int, accessFlags := 26, slot := 0, constantValue := 0 }, { name := "INSERTIONSORT_THRESHOLD", type := .int, accessFlags := 26, slot := 1, constantValue := 0 }, { name := "$assertionsDisabled", type := .boolean, accessFlags := 4120, slot := 2, constantValue := 0 }]
  methods := #[k17m0, k17m1]
  instanceTypes := #[]
  staticTypes := #[.int, .int, .boolean]
  resolved := Array.replicate 1029 none
  statics := none }

def pool18 : Array CpInfo := pool [(1, .class_ 2), (0, u "java/lang/Math"), (1, .class_ 6), (1, u "java/lang/Object"), (0, u "<init>"), (0, u "()V"), (89, .class_ 100), (1, u "java/lang/Math$RandomNumberGeneratorHolder"), (71, u "negativeZeroFloatBits"), (0, u "J"), (2, u "negativeZeroDoubleBits"), (24, u "min"), (43, u "$assertionsDisabled"), (0, u "Z"), (88, u "(II)I"), (2, u "twoToTheDoubleScaleDown"), (0, u "D"), (4, u "twoToTheDoubleScaleUp"), (9, u "E"), (3, u "PI"), (2, u "TAU"), (2, u "DEGREES_TO_RADIANS"), (0, u "RADIANS_TO_DEGREES")] 94

def k18m0 : Method := { name := "<init>", desc := "()V", sig := { parameters := [], returnType := none }, accessFlags := 2, code := none }
def k18c1 : Code := { maxStack := 2, maxLocals := 2, code := jdk_29_method_69_code, exceptionTable := #[], attributes := #[] }
def k18m1 : Method := { name := "min", desc := "(II)I", sig := { parameters := [.int, .int], returnType := some .int }, accessFlags := 9, code := some k18c1 }
/-- java/lang/Math -/
def k18 : Class := { plain "java/lang/Math" (some 0) with
  accessFlags := 49
  interfaces := #[]
  cf := some (fileOf pool18 1 #[.nestMembers #[98]] #[{ accessFlags := 2, nameIndex := 7, descriptorIndex := 8, attributes := #[] }, { accessFlags := 9, nameIndex := 201, descriptorIndex := 335, attributes := #[] }] 49 4 #[] #[{ accessFlags := 25, nameIndex := 354, descriptorIndex := 339, attributes := #[] }, { accessFlags := 25, nameIndex := 358, descriptorIndex := 339, attributes := #[] }, { accessFlags := 25, nameIndex := 361, descriptorIndex := 339, attributes := #[] }, { accessFlags := 26, nameIndex := 364, descriptorIndex := 339, attributes := #[] }, { accessFlags := 26, nameIndex := 365, descriptorIndex := 339, attributes := #[] }, { accessFlags := 26, nameIndex := 172, descriptorIndex := 173, attributes := #[] }, { accessFlags := 26, nameIndex := 176, descriptorIndex := 173, attributes := #[] }, { accessFlags := 8, nameIndex := 344, descriptorIndex := 339, attributes := #[] }, { accessFlags := 8, nameIndex := 338, descriptorIndex := 339, attributes := #[] }, { accessFlags := 4120, nameIndex := 245, descriptorIndex := 246, attributes := #[] }])
  fields := #[{ name := "E", type := .double, accessFlags := 25, slot := 0, constantValue := 0 }, { name := "PI", type := .double, accessFlags := 25, slot := 1, constantValue := 0 }, { name := "TAU", type := .double, accessFlags := 25, slot := 2, constantValue := 0 }, { name := "DEGREES_TO_RADIANS", type := .double, accessFlags := 26, slot := 3, constantValue := 0 }, { name := "RADIANS_TO_DEGREES", type := .double, accessFlags := 26, slot := 4, constantValue := 0 }, { name := "negativeZeroFloatBits", type := .long, accessFlags := 26, slot := 5, constantValue := 0 }, { name := "negativeZeroDoubleBits", type := .long, accessFlags := 26, slot := 6, constantValue := 0 }, { name := "twoToTheDoubleScaleUp", type := .double, accessFlags := 8, slot := 7, constantValue := 0 }, { name := "twoToTheDoubleScaleDown", type := .double, accessFlags := 8, slot := 8, constantValue := 0 }, { name := "$assertionsDisabled", type := .boolean, accessFlags := 4120, slot := 9, constantValue := 0 }]
  methods := #[k18m0, k18m1]
  instanceTypes := #[]
  staticTypes := #[.double, .double, .double, .double, .double, .long, .long, .double, .double, .boolean]
  resolved := Array.replicate 460 none
  statics := none }

def pool19 : Array CpInfo := pool [(2, .class_ 4), (1, u "java/lang/Object"), (0, u "<init>"), (0, u "()V"), (1, .class_ 10), (1, u "java/lang/System"), (0, u "allowSecurityManager"), (0, u "I"), (16, u "cons"), (0, u "Ljava/io/Console;"), (77, .class_ 110), (1, u "java/lang/System$CallersHolder"), (43, u "initialErrStream"), (0, u "Ljava/io/PrintStream;"), (19, u "security"), (0, u "Ljava/lang/SecurityManager;"), (31, .class_ 209), (0, u "java/lang/System$1"), (7, u "props"), (0, u "Ljava/util/Properties;"), (2, u "lineSeparator"), (0, u "Ljava/lang/String;"), (96, .class_ 321), (1, u "java/lang/System$LoggerFinder"), (5, .class_ 328), (0, u "java/lang/System$Logger"), (67, u "err"), (2, u "out"), (91, u "notSupportedJnuEncoding"), (15, u "in"), (17, u "initialIn"), (0, u "Ljava/io/InputStream;"), (35, u "bootLayer"), (0, u "Ljava/lang/ModuleLayer;"), (99, .class_ 664), (0, u "java/lang/System$2"), (9, u "NEVER"), (2, u "MAYBE"), (49, u "arraycopy"), (0, u "(Ljava/lang/Object;ILjava/lang/Object;II)V"), (72, .class_ 802), (0, u "java/lang/System$Logger$Level")] 31

def k19m0 : Method := { name := "<init>", desc := "()V", sig := { parameters := [], returnType := none }, accessFlags := 2, code := none }
def k19m1 : Method := { name := "arraycopy", desc := "(Ljava/lang/Object;ILjava/lang/Object;II)V", sig := { parameters := [(.object "java/lang/Object"), .int, (.object "java/lang/Object"), .int, .int], returnType := none }, accessFlags := 265, code := none }
/-- java/lang/System -/
def k19 : Class := { plain "java/lang/System" (some 0) with
  accessFlags := 49
  interfaces := #[]
  cf := some (fileOf pool19 8 #[.nestMembers #[319, 327, 801, 108, 663, 208]] #[{ accessFlags := 2, nameIndex := 5, descriptorIndex := 6, attributes := #[] }, { accessFlags := 265, nameIndex := 727, descriptorIndex := 728, attributes := #[] }] 49 2 #[] #[{ accessFlags := 25, nameIndex := 507, descriptorIndex := 526, attributes := #[] }, { accessFlags := 25, nameIndex := 399, descriptorIndex := 155, attributes := #[] }, { accessFlags := 25, nameIndex := 396, descriptorIndex := 155, attributes := #[] }, { accessFlags := 10, nameIndex := 525, descriptorIndex := 526, attributes := #[] }, { accessFlags := 26, nameIndex := 674, descriptorIndex := 12, attributes := #[] }, { accessFlags := 26, nameIndex := 677, descriptorIndex := 12, attributes := #[] }, { accessFlags := 10, nameIndex := 11, descriptorIndex := 12, attributes := #[] }, { accessFlags := 74, nameIndex := 175, descriptorIndex := 176, attributes := #[] }, { accessFlags := 10, nameIndex := 491, descriptorIndex := 222, attributes := #[] }, { accessFlags := 74, nameIndex := 29, descriptorIndex := 30, attributes := #[] }, { accessFlags := 74, nameIndex := 154, descriptorIndex := 155, attributes := #[] }, { accessFlags := 10, nameIndex := 217, descriptorIndex := 218, attributes := #[] }, { accessFlags := 10, nameIndex := 221, descriptorIndex := 222, attributes := #[] }, { accessFlags := 8, nameIndex := 562, descriptorIndex := 563, attributes := #[] }])
  fields := #[{ name := "in", type := (.object "java/io/InputStream"), accessFlags := 25, slot := 0, constantValue := 0 }, { name := "out", type := (.object "java/io/PrintStream"), accessFlags := 25, slot := 1, constantValue := 0 }, { name := "err", type := (.object "java/io/PrintStream"), accessFlags := 25, slot := 2, constantValue := 0 }, { name := "initialIn", type := (.object "java/io/InputStream"), accessFlags := 10, slot := 3, constantValue := 0 }, { name := "NEVER", type := .int, accessFlags := 26, slot := 4, constantValue := 0 }, { name := "MAYBE", type := .int, accessFlags := 26, slot := 5, constantValue := 0 }, { name := "allowSecurityManager", type := .int, accessFlags := 10, slot := 6, constantValue := 0 }, { name := "security", type := (.object "java/lang/SecurityManager"), accessFlags := 74, slot := 7, constantValue := 0 }, { name := "notSupportedJnuEncoding", type := (.object "java/lang/String"), accessFlags := 10, slot := 8, constantValue := 0 }, { name := "cons", type := (.object "java/io/Console"), accessFlags := 74, slot := 9, constantValue := 0 }, { name := "initialErrStream", type := (.object "java/io/PrintStream"), accessFlags := 74, slot := 10, constantValue := 0 }, { name := "props", type := (.object "java/util/Properties"), accessFlags := 10, slot := 11, constantValue := 0 }, { name := "lineSeparator", type := (.object "java/lang/String"), accessFlags := 10, slot := 12, constantValue := 0 }, { name := "bootLayer", type := (.object "java/lang/ModuleLayer"), accessFlags := 8, slot := 13, constantValue := 0 }]
  methods := #[k19m0, k19m1]
  instanceTypes := #[]
  staticTypes := #[(.object "java/io/InputStream"), (.object "java/io/PrintStream"), (.object "java/io/PrintStream"), (.object "java/io/InputStream"), .int, .int, .int, (.object "java/lang/SecurityManager"), (.object "java/lang/String"), (.object "java/io/Console"), (.object "java/io/PrintStream"), (.object "java/util/Properties"), (.object "java/lang/String"), (.object "java/lang/ModuleLayer")]
  resolved := Array.replicate 834 none
  statics := none }

/-- the primitive byte -/
def k20 : Class := { plain "byte" none with kind := .primitive 'B', accessFlags := 0x411 }
/-- [B -/
def k21 : Class := { plain "[B" (some 0) with kind := .array 20 .byte, interfaces := #[8, 9], accessFlags := 1041 }

/-- the primitive int -/
def k22 : Class := { plain "int" none with kind := .primitive 'I', accessFlags := 0x411 }
/-- [I -/
def k23 : Class := { plain "[I" (some 0) with kind := .array 22 .int, interfaces := #[8, 9], accessFlags := 1041 }

/-- [Lcom/example/kindgen/kindgen/core/document/RecordOrder$Level; -/
def k24 : Class := { plain "[Lcom/example/kindgen/kindgen/core/document/RecordOrder$Level;" (some 0) with kind := .array 14 (.object "com/example/kindgen/kindgen/core/document/RecordOrder$Level"), interfaces := #[8, 9], accessFlags := 1041 }

/-- [Ljava/util/HashMap$Node; -/
def k25 : Class := { plain "[Ljava/util/HashMap$Node;" (some 0) with kind := .array 16 (.object "java/util/HashMap$Node"), interfaces := #[8, 9], accessFlags := 1041 }

def heap : Heap := #[{ cls := 10, slots := #[.long 0, .ref 1], vm := .statics 10 },
  { cls := 0, slots := #[], vm := .none }]
def classes : Array Class := #[k0, k1, k2, k3, k4, k5, k6, k7, k8, k9, k10, k11, k12, k13, k14, k15, k16, k17, k18, k19, k20, k21, k22, k23, k24, k25]
def interned : List (Array UInt16 × Addr) := []
def slotsUsed : Nat := 2
def theMethod : MethodId := ⟨1, 2⟩
def args0 : Array Value := #[.int 5, .int 5, .int 5, .int 5, .int 5]
def aboutOver (below : List Frame) : State where
  vm := { classes := classes, interned := interned.toArray }
  heap := heap
  slotsUsed := slotsUsed
  threads := #[{ frames := .invoking theMethod args0 :: below }]
def below0 : List Frame := [.native { method := ⟨0, 0⟩, args := #[] }]
def about1 : State := aboutOver below0
def p0 : Program := .bare "" "" ""
def e0 : Env := launch0.env 0 0 0
theorem w_frames : about1.frames = Frame.invoking theMethod args0 :: below0 := rfl
set_option maxRecDepth 65536 in
theorem w_args : argsFit about1.vm theMethod args0 = true := by decide +kernel
set_option maxRecDepth 65536 in
theorem w_heap : heapFits about1 = true := by decide +kernel
set_option maxRecDepth 65536 in
theorem w_runnable : about1.curStatus? = some .runnable := by decide +kernel
set_option maxRecDepth 65536 in
theorem w_alone : about1.alone = true := by decide +kernel
set_option maxRecDepth 65536 in
theorem w_named : about1.methodNamed? x = some theMethod := by decide +kernel
set_option maxRecDepth 65536 in
theorem w_hears : about1.hears theMethod below0 = true := by decide +kernel
set_option maxRecDepth 65536 in
theorem w_ripe : about1.ripe theMethod args0 below0 = true := by decide +kernel
theorem w_running : about1.status = .running := rfl
set_option maxRecDepth 65536 in
theorem w_room : about1.hasRoom e0.platform room_1 = true :=
  launch0.hasRoom_least _ room_1 (by decide +kernel) (by decide +kernel) (by decide +kernel) (by decide +kernel) (by decide +kernel) (by decide +kernel)
theorem allAtoms_all (ts : List Jvm.Cond) (a : Array Jvm.Value) (st : Jvm.State) : (allAtoms ts).before a st = ts.all (fun c => c.before a st) := by
  induction ts with
  | nil => rfl
  | cons c t ih =>
    show (Jvm.Cond.and c (allAtoms t)).before a st = _
    rw [Jvm.Cond.before_and, ih, List.all_cons]
def words1 : List Jvm.Cond := Jvm.Cond.code x code maxLocals ret :: tables_1
/-- a 'code' word, met by the world's own term for the bytes: nothing is compared byte by byte -/
theorem code_word {y : MethodName} {bytes : ByteArray} {mx : Nat} {rt : Option FieldType} {a : Array Value} {s : State} {m : MethodId} {meth : Method} {c : Code} (h1 : s.methodNamed? y = some m) (h2 : s.vm.method? m = some meth) (h3 : meth.code = some c) (h4 : c.code = bytes)
    (h5 : (c.maxLocals == mx && c.exceptionTable.isEmpty && decide (c.maxStack ≤ mostOperands) && decide (meth.sig.returnType = rt) && !meth.locks && decide (parseMethodDescriptor y.desc = some meth.sig)) = true) : (Jvm.Cond.code y bytes mx rt).before a s = true := by
  simp only [Bool.and_eq_true, beq_iff_eq, Bool.not_eq_true', decide_eq_true_eq] at h5
  obtain ⟨⟨⟨⟨⟨g1, g2⟩, g3⟩, g4⟩, g5⟩, g6⟩ := h5
  simp [Cond.before, Cond.holds, Cond.value, h1, h2, h3, h4, g1, g2, g3, g4, g5, g6]
def isCode : Jvm.Cond → Bool
  | .code _ _ _ _ => true
  | _ => false
theorem all_split {L : List Jvm.Cond} {P : Jvm.Cond → Bool} (h1 : L.all (fun c => isCode c || P c) = true) (h2 : ∀ c ∈ L.filter isCode, P c = true) : L.all P = true := by
  refine List.all_eq_true.mpr fun c hc => ?_
  have h := List.all_eq_true.mp h1 c hc
  rcases Bool.eq_false_or_eq_true (isCode c) with hi | hi
  · exact h2 c (List.mem_filter.mpr ⟨hc, hi⟩)
  · simpa [hi] using h
set_option maxRecDepth 65536 in
theorem w_c0 : (Jvm.Cond.code x code maxLocals ret).before args0 about1 = true := code_word (m := ⟨1, 2⟩) (meth := k1m2) (c := k1c2) (by decide +kernel) rfl rfl rfl (by decide +kernel)
set_option maxRecDepth 65536 in
theorem w_c1 : (Jvm.Cond.code ({ cls := "com/example/kindgen/kindgen/core/document/RecordOrder", name := "<init>", desc := "(J)V" } : Jvm.MethodName) prog_72_method_2_code (3 : Nat) (Option.none : Option Jvm.ClassFile.FieldType)).before args0 about1 = true := code_word (m := ⟨2, 1⟩) (meth := k2m1) (c := k2c1) (by decide +kernel) rfl rfl rfl (by decide +kernel)
set_option maxRecDepth 65536 in
theorem w_c2 : (Jvm.Cond.code ({ cls := "java/lang/Object", name := "<init>", desc := "()V" } : Jvm.MethodName) object_method_1_code (1 : Nat) (Option.none : Option Jvm.ClassFile.FieldType)).before args0 about1 = true := code_word (m := ⟨0, 0⟩) (meth := k0m0) (c := k0c0) (by decide +kernel) rfl rfl rfl (by decide +kernel)
set_option maxRecDepth 65536 in
theorem w_c3 : (Jvm.Cond.code ({ cls := "java/util/HashSet", name := "<init>", desc := "()V" } : Jvm.MethodName) jdk_93_method_1_code (1 : Nat) (Option.none : Option Jvm.ClassFile.FieldType)).before args0 about1 = true := code_word (m := ⟨10, 0⟩) (meth := k10m0) (c := k10c0) (by decide +kernel) rfl rfl rfl (by decide +kernel)
set_option maxRecDepth 65536 in
theorem w_c4 : (Jvm.Cond.code ({ cls := "java/util/AbstractSet", name := "<init>", desc := "()V" } : Jvm.MethodName) jdk_91_method_1_code (1 : Nat) (Option.none : Option Jvm.ClassFile.FieldType)).before args0 about1 = true := code_word (m := ⟨7, 0⟩) (meth := k7m0) (c := k7c0) (by decide +kernel) rfl rfl rfl (by decide +kernel)
set_option maxRecDepth 65536 in
theorem w_c5 : (Jvm.Cond.code ({ cls := "java/util/AbstractCollection", name := "<init>", desc := "()V" } : Jvm.MethodName) jdk_22_method_1_code (1 : Nat) (Option.none : Option Jvm.ClassFile.FieldType)).before args0 about1 = true := code_word (m := ⟨5, 0⟩) (meth := k5m0) (c := k5c0) (by decide +kernel) rfl rfl rfl (by decide +kernel)
set_option maxRecDepth 65536 in
theorem w_c6 : (Jvm.Cond.code ({ cls := "java/util/HashMap", name := "<init>", desc := "()V" } : Jvm.MethodName) jdk_69_method_7_code (1 : Nat) (Option.none : Option Jvm.ClassFile.FieldType)).before args0 about1 = true := code_word (m := ⟨13, 1⟩) (meth := k13m1) (c := k13c1) (by decide +kernel) rfl rfl rfl (by decide +kernel)
set_option maxRecDepth 65536 in
theorem w_c7 : (Jvm.Cond.code ({ cls := "java/util/AbstractMap", name := "<init>", desc := "()V" } : Jvm.MethodName) jdk_71_method_1_code (1 : Nat) (Option.none : Option Jvm.ClassFile.FieldType)).before args0 about1 = true := code_word (m := ⟨12, 0⟩) (meth := k12m0) (c := k12c0) (by decide +kernel) rfl rfl rfl (by decide +kernel)
set_option maxRecDepth 65536 in
theorem w_c8 : (Jvm.Cond.code ({ cls := "com/example/kindgen/kindgen/core/document/RecordOrder", name := "start", desc := "(Lcom/example/kindgen/kindgen/runtime/RecordShape;J)V" } : Jvm.MethodName) prog_72_method_4_code (5 : Nat) (Option.none : Option Jvm.ClassFile.FieldType)).before args0 about1 = true := code_word (m := ⟨2, 2⟩) (meth := k2m2) (c := k2c2) (by decide +kernel) rfl rfl rfl (by decide +kernel)
set_option maxRecDepth 65536 in
theorem w_c9 : (Jvm.Cond.code ({ cls := "com/example/kindgen/kindgen/core/document/RecordOrder$Level", name := "<init>", desc := "()V" } : Jvm.MethodName) prog_73_method_1_code (1 : Nat) (Option.none : Option Jvm.ClassFile.FieldType)).before args0 about1 = true := code_word (m := ⟨14, 0⟩) (meth := k14m0) (c := k14c0) (by decide +kernel) rfl rfl rfl (by decide +kernel)
set_option maxRecDepth 65536 in
theorem w_c10 : (Jvm.Cond.code ({ cls := "com/example/kindgen/kindgen/core/document/RecordOrder", name := "member", desc := "(I)V" } : Jvm.MethodName) prog_72_method_5_code (3 : Nat) (Option.none : Option Jvm.ClassFile.FieldType)).before args0 about1 = true := code_word (m := ⟨2, 3⟩) (meth := k2m3) (c := k2c3) (by decide +kernel) rfl rfl rfl (by decide +kernel)
set_option maxRecDepth 65536 in
theorem w_c11 : (Jvm.Cond.code ({ cls := "com/example/kindgen/kindgen/core/document/RecordOrder", name := "end", desc := "(J)V" } : Jvm.MethodName) prog_72_method_6_code (4 : Nat) (Option.none : Option Jvm.ClassFile.FieldType)).before args0 about1 = true := code_word (m := ⟨2, 4⟩) (meth := k2m4) (c := k2c4) (by decide +kernel) rfl rfl rfl (by decide +kernel)
set_option maxRecDepth 65536 in
theorem w_c12 : (Jvm.Cond.code ({ cls := "java/util/HashSet", name := "add", desc := "(Ljava/lang/Object;)Z" } : Jvm.MethodName) jdk_93_method_10_code (2 : Nat) (Option.some Jvm.ClassFile.FieldType.boolean)).before args0 about1 = true := code_word (m := ⟨10, 1⟩) (meth := k10m1) (c := k10c1) (by decide +kernel) rfl rfl rfl (by decide +kernel)
set_option maxRecDepth 65536 in
theorem w_c13 : (Jvm.Cond.code ({ cls := "java/util/HashMap", name := "put", desc := "(Ljava/lang/Object;Ljava/lang/Object;)Ljava/lang/Object;" } : Jvm.MethodName) jdk_69_method_15_code (3 : Nat) (Option.some (Jvm.ClassFile.FieldType.object "java/lang/Object"))).before args0 about1 = true := code_word (m := ⟨13, 2⟩) (meth := k13m2) (c := k13c2) (by decide +kernel) rfl rfl rfl (by decide +kernel)
set_option maxRecDepth 65536 in
theorem w_c14 : (Jvm.Cond.code ({ cls := "java/util/HashMap", name := "hash", desc := "(Ljava/lang/Object;)I" } : Jvm.MethodName) jdk_69_method_1_code (2 : Nat) (Option.some Jvm.ClassFile.FieldType.int)).before args0 about1 = true := code_word (m := ⟨13, 0⟩) (meth := k13m0) (c := k13c0) (by decide +kernel) rfl rfl rfl (by decide +kernel)
set_option maxRecDepth 65536 in
theorem w_c15 : (Jvm.Cond.code ({ cls := "java/util/HashMap", name := "putVal", desc := "(ILjava/lang/Object;Ljava/lang/Object;ZZ)Ljava/lang/Object;" } : Jvm.MethodName) jdk_69_method_16_code (13 : Nat) (Option.some (Jvm.ClassFile.FieldType.object "java/lang/Object"))).before args0 about1 = true := code_word (m := ⟨13, 3⟩) (meth := k13m3) (c := k13c3) (by decide +kernel) rfl rfl rfl (by decide +kernel)
set_option maxRecDepth 65536 in
theorem w_c16 : (Jvm.Cond.code ({ cls := "java/util/HashMap", name := "resize", desc := "()[Ljava/util/HashMap$Node;" } : Jvm.MethodName) jdk_69_method_17_code (14 : Nat) (Option.some (Jvm.ClassFile.FieldType.array (Jvm.ClassFile.FieldType.object "java/util/HashMap$Node")))).before args0 about1 = true := code_word (m := ⟨13, 4⟩) (meth := k13m4) (c := k13c4) (by decide +kernel) rfl rfl rfl (by decide +kernel)
set_option maxRecDepth 65536 in
theorem w_c17 : (Jvm.Cond.code ({ cls := "java/util/HashMap", name := "newNode", desc := "(ILjava/lang/Object;Ljava/lang/Object;Ljava/util/HashMap$Node;)Ljava/util/HashMap$Node;" } : Jvm.MethodName) jdk_69_method_46_code (5 : Nat) (Option.some (Jvm.ClassFile.FieldType.object "java/util/HashMap$Node"))).before args0 about1 = true := code_word (m := ⟨13, 5⟩) (meth := k13m5) (c := k13c5) (by decide +kernel) rfl rfl rfl (by decide +kernel)
set_option maxRecDepth 65536 in
theorem w_c18 : (Jvm.Cond.code ({ cls := "java/util/HashMap$Node", name := "<init>", desc := "(ILjava/lang/Object;Ljava/lang/Object;Ljava/util/HashMap$Node;)V" } : Jvm.MethodName) jdk_70_method_1_code (5 : Nat) (Option.none : Option Jvm.ClassFile.FieldType)).before args0 about1 = true := code_word (m := ⟨16, 0⟩) (meth := k16m0) (c := k16c0) (by decide +kernel) rfl rfl rfl (by decide +kernel)
set_option maxRecDepth 65536 in
theorem w_c19 : (Jvm.Cond.code ({ cls := "java/util/HashMap", name := "afterNodeInsertion", desc := "(Z)V" } : Jvm.MethodName) jdk_69_method_52_code (2 : Nat) (Option.none : Option Jvm.ClassFile.FieldType)).before args0 about1 = true := code_word (m := ⟨13, 7⟩) (meth := k13m7) (c := k13c7) (by decide +kernel) rfl rfl rfl (by decide +kernel)
set_option maxRecDepth 65536 in
theorem w_c20 : (Jvm.Cond.code ({ cls := "com/example/kindgen/kindgen/core/document/RecordOrder", name := "isLong", desc := "(JJ)Z" } : Jvm.MethodName) prog_72_method_7_code (5 : Nat) (Option.some Jvm.ClassFile.FieldType.boolean)).before args0 about1 = true := code_word (m := ⟨2, 5⟩) (meth := k2m5) (c := k2c5) (by decide +kernel) rfl rfl rfl (by decide +kernel)
set_option maxRecDepth 65536 in
theorem w_c21 : (Jvm.Cond.code ({ cls := "com/example/kindgen/kindgen/core/document/RecordOrder", name := "held", desc := "()[I" } : Jvm.MethodName) prog_72_method_9_code (1 : Nat) (Option.some (Jvm.ClassFile.FieldType.array Jvm.ClassFile.FieldType.int))).before args0 about1 = true := code_word (m := ⟨2, 6⟩) (meth := k2m6) (c := k2c6) (by decide +kernel) rfl rfl rfl (by decide +kernel)
set_option maxRecDepth 65536 in
theorem w_c22 : (Jvm.Cond.code ({ cls := "java/util/Arrays", name := "copyOf", desc := "([II)[I" } : Jvm.MethodName) jdk_65_method_123_code (3 : Nat) (Option.some (Jvm.ClassFile.FieldType.array Jvm.ClassFile.FieldType.int))).before args0 about1 = true := code_word (m := ⟨17, 1⟩) (meth := k17m1) (c := k17c1) (by decide +kernel) rfl rfl rfl (by decide +kernel)
set_option maxRecDepth 65536 in
theorem w_c23 : (Jvm.Cond.code ({ cls := "java/lang/Math", name := "min", desc := "(II)I" } : Jvm.MethodName) jdk_29_method_69_code (2 : Nat) (Option.some Jvm.ClassFile.FieldType.int)).before args0 about1 = true := code_word (m := ⟨18, 1⟩) (meth := k18m1) (c := k18c1) (by decide +kernel) rfl rfl rfl (by decide +kernel)
set_option maxRecDepth 65536 in
theorem w_c24 : (Jvm.Cond.code ({ cls := "com/example/kindgen/kindgen/core/document/RecordOrderMemberPinLaw", name := "pair", desc := "(II)Z" } : Jvm.MethodName) method_2_code (2 : Nat) (Option.some Jvm.ClassFile.FieldType.boolean)).before args0 about1 = true := code_word (m := ⟨1, 1⟩) (meth := k1m1) (c := k1c1) (by decide +kernel) rfl rfl rfl (by decide +kernel)
set_option maxRecDepth 65536 in
theorem w_c25 : (Jvm.Cond.code ({ cls := "java/util/HashMap", name := "afterNodeAccess", desc := "(Ljava/util/HashMap$Node;)V" } : Jvm.MethodName) jdk_69_method_51_code (2 : Nat) (Option.none : Option Jvm.ClassFile.FieldType)).before args0 about1 = true := code_word (m := ⟨13, 6⟩) (meth := k13m6) (c := k13c6) (by decide +kernel) rfl rfl rfl (by decide +kernel)
def codes1 : List Jvm.Cond := [Jvm.Cond.code x code maxLocals ret, Jvm.Cond.code ({ cls := "com/example/kindgen/kindgen/core/document/RecordOrder", name := "<init>", desc := "(J)V" } : Jvm.MethodName) prog_72_method_2_code (3 : Nat) (Option.none : Option Jvm.ClassFile.FieldType), Jvm.Cond.code ({ cls := "java/lang/Object", name := "<init>", desc := "()V" } : Jvm.MethodName) object_method_1_code (1 : Nat) (Option.none : Option Jvm.ClassFile.FieldType), Jvm.Cond.code ({ cls := "java/util/HashSet", name := "<init>", desc := "()V" } : Jvm.MethodName) jdk_93_method_1_code (1 : Nat) (Option.none : Option Jvm.ClassFile.FieldType), Jvm.Cond.code ({ cls := "java/util/AbstractSet", name := "<init>", desc := "()V" } : Jvm.MethodName) jdk_91_method_1_code (1 : Nat) (Option.none : Option Jvm.ClassFile.FieldType), Jvm.Cond.code ({ cls := "java/util/AbstractCollection", name := "<init>", desc := "()V" } : Jvm.MethodName) jdk_22_method_1_code (1 : Nat) (Option.none : Option Jvm.ClassFile.FieldType), Jvm.Cond.code ({ cls := "java/util/HashMap", name := "<init>", desc := "()V" } : Jvm.MethodName) jdk_69_method_7_code (1 : Nat) (Option.none : Option Jvm.ClassFile.FieldType), Jvm.Cond.code ({ cls := "java/util/AbstractMap", name := "<init>", desc := "()V" } : Jvm.MethodName) jdk_71_method_1_code (1 : Nat) (Option.none : Option Jvm.ClassFile.FieldType), Jvm.Cond.code ({ cls := "com/example/kindgen/kindgen/core/document/RecordOrder", name := "start", desc := "(Lcom/example/kindgen/kindgen/runtime/RecordShape;J)V" } : Jvm.MethodName) prog_72_method_4_code (5 : Nat) (Option.none : Option Jvm.ClassFile.FieldType), Jvm.Cond.code ({ cls := "com/example/kindgen/kindgen/core/document/RecordOrder$Level", name := "<init>", desc := "()V" } : Jvm.MethodName) prog_73_method_1_code (1 : Nat) (Option.none : Option Jvm.ClassFile.FieldType), Jvm.Cond.code ({ cls := "com/example/kindgen/kindgen/core/document/RecordOrder", name := "member", desc := "(I)V" } : Jvm.MethodName) prog_72_method_5_code (3 : Nat) (Option.none : Option Jvm.ClassFile.FieldType), Jvm.Cond.code ({ cls := "com/example/kindgen/kindgen/core/document/RecordOrder", name := "end", desc := "(J)V" } : Jvm.MethodName) prog_72_method_6_code (4 : Nat) (Option.none : Option Jvm.ClassFile.FieldType), Jvm.Cond.code ({ cls := "java/util/HashSet", name := "add", desc := "(Ljava/lang/Object;)Z" } : Jvm.MethodName) jdk_93_method_10_code (2 : Nat) (Option.some Jvm.ClassFile.FieldType.boolean), Jvm.Cond.code ({ cls := "java/util/HashMap", name := "put", desc := "(Ljava/lang/Object;Ljava/lang/Object;)Ljava/lang/Object;" } : Jvm.MethodName) jdk_69_method_15_code (3 : Nat) (Option.some (Jvm.ClassFile.FieldType.object "java/lang/Object")), Jvm.Cond.code ({ cls := "java/util/HashMap", name := "hash", desc := "(Ljava/lang/Object;)I" } : Jvm.MethodName) jdk_69_method_1_code (2 : Nat) (Option.some Jvm.ClassFile.FieldType.int), Jvm.Cond.code ({ cls := "java/util/HashMap", name := "putVal", desc := "(ILjava/lang/Object;Ljava/lang/Object;ZZ)Ljava/lang/Object;" } : Jvm.MethodName) jdk_69_method_16_code (13 : Nat) (Option.some (Jvm.ClassFile.FieldType.object "java/lang/Object")), Jvm.Cond.code ({ cls := "java/util/HashMap", name := "resize", desc := "()[Ljava/util/HashMap$Node;" } : Jvm.MethodName) jdk_69_method_17_code (14 : Nat) (Option.some (Jvm.ClassFile.FieldType.array (Jvm.ClassFile.FieldType.object "java/util/HashMap$Node"))), Jvm.Cond.code ({ cls := "java/util/HashMap", name := "newNode", desc := "(ILjava/lang/Object;Ljava/lang/Object;Ljava/util/HashMap$Node;)Ljava/util/HashMap$Node;" } : Jvm.MethodName) jdk_69_method_46_code (5 : Nat) (Option.some (Jvm.ClassFile.FieldType.object "java/util/HashMap$Node")), Jvm.Cond.code ({ cls := "java/util/HashMap$Node", name := "<init>", desc := "(ILjava/lang/Object;Ljava/lang/Object;Ljava/util/HashMap$Node;)V" } : Jvm.MethodName) jdk_70_method_1_code (5 : Nat) (Option.none : Option Jvm.ClassFile.FieldType), Jvm.Cond.code ({ cls := "java/util/HashMap", name := "afterNodeInsertion", desc := "(Z)V" } : Jvm.MethodName) jdk_69_method_52_code (2 : Nat) (Option.none : Option Jvm.ClassFile.FieldType), Jvm.Cond.code ({ cls := "com/example/kindgen/kindgen/core/document/RecordOrder", name := "isLong", desc := "(JJ)Z" } : Jvm.MethodName) prog_72_method_7_code (5 : Nat) (Option.some Jvm.ClassFile.FieldType.boolean), Jvm.Cond.code ({ cls := "com/example/kindgen/kindgen/core/document/RecordOrder", name := "held", desc := "()[I" } : Jvm.MethodName) prog_72_method_9_code (1 : Nat) (Option.some (Jvm.ClassFile.FieldType.array Jvm.ClassFile.FieldType.int)), Jvm.Cond.code ({ cls := "java/util/Arrays", name := "copyOf", desc := "([II)[I" } : Jvm.MethodName) jdk_65_method_123_code (3 : Nat) (Option.some (Jvm.ClassFile.FieldType.array Jvm.ClassFile.FieldType.int)), Jvm.Cond.code ({ cls := "java/lang/Math", name := "min", desc := "(II)I" } : Jvm.MethodName) jdk_29_method_69_code (2 : Nat) (Option.some Jvm.ClassFile.FieldType.int), Jvm.Cond.code ({ cls := "com/example/kindgen/kindgen/core/document/RecordOrderMemberPinLaw", name := "pair", desc := "(II)Z" } : Jvm.MethodName) method_2_code (2 : Nat) (Option.some Jvm.ClassFile.FieldType.boolean), Jvm.Cond.code ({ cls := "java/util/HashMap", name := "afterNodeAccess", desc := "(Ljava/util/HashMap$Node;)V" } : Jvm.MethodName) jdk_69_method_51_code (2 : Nat) (Option.none : Option Jvm.ClassFile.FieldType)]
set_option maxRecDepth 65536 in
theorem codes_eq : words1.filter isCode = codes1 := rfl
theorem w_codes : ∀ c ∈ words1.filter isCode, c.before args0 about1 = true := by
  rw [codes_eq]
  intro c hc
  simp only [codes1, List.mem_cons, List.not_mem_nil, or_false] at hc
  rcases hc with rfl | rfl | rfl | rfl | rfl | rfl | rfl | rfl | rfl | rfl | rfl | rfl | rfl | rfl | rfl | rfl | rfl | rfl | rfl | rfl | rfl | rfl | rfl | rfl | rfl | rfl
  · exact w_c0
  · exact w_c1
  · exact w_c2
  · exact w_c3
  · exact w_c4
  · exact w_c5
  · exact w_c6
  · exact w_c7
  · exact w_c8
  · exact w_c9
  · exact w_c10
  · exact w_c11
  · exact w_c12
  · exact w_c13
  · exact w_c14
  · exact w_c15
  · exact w_c16
  · exact w_c17
  · exact w_c18
  · exact w_c19
  · exact w_c20
  · exact w_c21
  · exact w_c22
  · exact w_c23
  · exact w_c24
  · exact w_c25
set_option maxRecDepth 65536 in
theorem w_t1 : (words1.take 24).all (fun c => isCode c || c.before args0 about1) = true := by decide +kernel
set_option maxRecDepth 65536 in
theorem w_t2 : ((words1.drop 24).take 24).all (fun c => isCode c || c.before args0 about1) = true := by decide +kernel
set_option maxRecDepth 65536 in
theorem w_t3 : (((words1.drop 24).drop 24).take 24).all (fun c => isCode c || c.before args0 about1) = true := by decide +kernel
set_option maxRecDepth 65536 in
theorem w_t4 : ((((words1.drop 24).drop 24).drop 24).take 24).all (fun c => isCode c || c.before args0 about1) = true := by decide +kernel
set_option maxRecDepth 65536 in
theorem w_t5 : (((((words1.drop 24).drop 24).drop 24).drop 24).take 24).all (fun c => isCode c || c.before args0 about1) = true := by decide +kernel
set_option maxRecDepth 65536 in
theorem w_t6 : ((((((words1.drop 24).drop 24).drop 24).drop 24).drop 24).take 24).all (fun c => isCode c || c.before args0 about1) = true := by decide +kernel
set_option maxRecDepth 65536 in
theorem w_t7 : (((((((words1.drop 24).drop 24).drop 24).drop 24).drop 24).drop 24).take 24).all (fun c => isCode c || c.before args0 about1) = true := by decide +kernel
set_option maxRecDepth 65536 in
theorem w_t8 : ((((((((words1.drop 24).drop 24).drop 24).drop 24).drop 24).drop 24).drop 24).take 24).all (fun c => isCode c || c.before args0 about1) = true := by decide +kernel
set_option maxRecDepth 65536 in
theorem w_t9 : ((((((((words1.drop 24).drop 24).drop 24).drop 24).drop 24).drop 24).drop 24).drop 24).all (fun c => isCode c || c.before args0 about1) = true := by decide +kernel
theorem w_tables : (allAtoms (Jvm.Cond.code x code maxLocals ret :: tables_1)).before args0 about1 = true := by
  rw [allAtoms_all]
  show words1.all (fun c => c.before args0 about1) = true
  refine all_split ?_ w_codes
  rw [← List.take_append_drop 24 words1, List.all_append, w_t1, ← List.take_append_drop 24 (words1.drop 24), List.all_append, w_t2, ← List.take_append_drop 24 ((words1.drop 24).drop 24), List.all_append, w_t3, ← List.take_append_drop 24 (((words1.drop 24).drop 24).drop 24), List.all_append, w_t4, ← List.take_append_drop 24 ((((words1.drop 24).drop 24).drop 24).drop 24), List.all_append, w_t5, ← List.take_append_drop 24 (((((words1.drop 24).drop 24).drop 24).drop 24).drop 24), List.all_append, w_t6, ← List.take_append_drop 24 ((((((words1.drop 24).drop 24).drop 24).drop 24).drop 24).drop 24), List.all_append, w_t7, ← List.take_append_drop 24 (((((((words1.drop 24).drop 24).drop 24).drop 24).drop 24).drop 24).drop 24), List.all_append, w_t8, w_t9]
  rfl
set_option maxRecDepth 65536 in
theorem w_rest : rest_1_c.before args0 about1 = true := by decide +kernel
set_option maxRecDepth 65536 in
theorem w_case : (Jvm.Cond.and given_1 narrow_1).before args0 about1 = true := by decide +kernel
theorem w_applies : (headSpec (Jvm.Cond.code x code maxLocals ret :: tables_1) room_1).applies x e0.platform about1 = true :=
  (Spec.applies_iff w_frames).mpr ⟨w_running, w_runnable, w_alone, w_named, w_hears, w_ripe, w_room, w_tables⟩
theorem atStart : AtStart classFile x code maxLocals ret World_1 tables_1 room_1 Calls_1 rest_1 Pre_1 launch0 p0 e0 about1 theMethod args0 below0 :=
  ⟨lists_1, trivial, launch0.admits_env _ _ _, launch0.least_env, fairChoices_fair.cas, fairChoices_fair.clock, w_frames, w_args, w_heap, w_applies, trivial, w_rest, w_case⟩
end start1
theorem witness_1 : WitnessClaimed_1 := ⟨start1.p0, start1.e0, start1.about1, start1.theMethod, start1.args0, start1.below0, start1.atStart⟩
end Jvm.Pilot.@@N@@
