import JvmDerived
import JvmDerived.Pilot.@@N@@Statement
import JvmDerived.Pilot.@@N@@Code
set_option linter.unusedVariables false
set_option linter.unusedSimpArgs false
namespace Jvm.RoadKit
open Sem ClassFile Op Lib Jvm.Stand Jvm.Free Jvm.LawKit
section New
variable {p : Program} {l : Launch} {e : Env} {R : Room} {s : State} {m : MethodId} {args : Array Value} {below : List Frame} {meth : Method} {c : Code} {T : State} {locs : List Loc} {cells slots : Nat}
theorem retI (X : Stand p l e R s m args below meth c T locs cells slots) (hx : p.tables.exec = Jvm.exec) {pc : Nat} {Ls : Array Slot} {z : Int32} {rest : List Value} (hret : meth.sig.returnType = some .int) (hd : decode c.code pc = .ok (.ireturn, 1)) {fs : List Frame}
    (hl : ∀ (f : JFrame) (acts : List Action), f.method = m → f.locked = none → f.entered = [] → (doReturn e (T.setTop f) acts (some (.int z))).1 = T.setFrames fs) : Steps p.tables e below (T.setTop (mkF m pc Ls (.int z :: rest))) (T.setFrames fs) := by
  have hm' : T.vm.method? m = some meth := X.method'
  have hn : narrow .int (.int z) = .int z := rfl
  show Steps p.tables e below (T.setTop { method := m, pc := pc, locals := Ls, stack := _ :: rest, locked := none }) _
  jvm_step X.here [X.here.top, hx, hd, hm', hret, hn]
  first | (intro acts; rw [hl _ acts rfl rfl rfl]) | rw [hl _ _ rfl rfl rfl]
  exact Steps.refl _
end New
end Jvm.RoadKit
namespace Jvm.Pilot.@@N@@
open Jvm Jvm.ClassFile Sem Op Lib Jvm.Free Jvm.Stand Jvm.LawKit Jvm.RoadKit Bundle Jvm.Pilot.@@N@@.Jvm.D
theorem pd_0 : parseMethodDescriptor "(III)Z" = some ⟨[.int, .int, .int], some .boolean⟩ := by decide +kernel
theorem pd_1 : parseMethodDescriptor "([BII)I" = some ⟨[(.array .byte), .int, .int], some .int⟩ := by decide +kernel
theorem d1_0 : decode method_2_code 0 = .ok (.iload_n 0, 1) := by decide +kernel
theorem d1_1 : decode method_2_code 1 = .ok (.iload_n 1, 1) := by decide +kernel
theorem d1_2 : decode method_2_code 2 = .ok (.if_icmp .lt 12, 3) := by decide +kernel
theorem d1_5 : decode method_2_code 5 = .ok (.iload_n 0, 1) := by decide +kernel
theorem d1_6 : decode method_2_code 6 = .ok (.iload_n 2, 1) := by decide +kernel
theorem d1_7 : decode method_2_code 7 = .ok (.if_icmp .gt 7, 3) := by decide +kernel
theorem d1_10 : decode method_2_code 10 = .ok (.iconst 1, 1) := by decide +kernel
theorem d1_11 : decode method_2_code 11 = .ok (.goto 4, 3) := by decide +kernel
theorem d1_14 : decode method_2_code 14 = .ok (.iconst 0, 1) := by decide +kernel
theorem d1_15 : decode method_2_code 15 = .ok (.ireturn, 1) := by decide +kernel
theorem pn_1 : plainName "com/example/kindgen/kindgen/runtime/Utf8CursorSequenceLengthPinLaw" = true := by first | (simp [plainName, overriddenIn]; done) | decide +kernel
theorem d2_0 : decode prog_168_method_19_code 0 = .ok (.aload_n 0, 1) := by decide +kernel
theorem d2_1 : decode prog_168_method_19_code 1 = .ok (.iload_n 1, 1) := by decide +kernel
theorem d2_2 : decode prog_168_method_19_code 2 = .ok (.baload, 1) := by decide +kernel
theorem d2_3 : decode prog_168_method_19_code 3 = .ok (.sipush 255, 3) := by decide +kernel
theorem d2_6 : decode prog_168_method_19_code 6 = .ok (.iand, 1) := by decide +kernel
theorem d2_7 : decode prog_168_method_19_code 7 = .ok (.istore_n 3, 1) := by decide +kernel
theorem d2_8 : decode prog_168_method_19_code 8 = .ok (.sipush 128, 3) := by decide +kernel
theorem d2_11 : decode prog_168_method_19_code 11 = .ok (.istore 5, 2) := by decide +kernel
theorem d2_13 : decode prog_168_method_19_code 13 = .ok (.sipush 191, 3) := by decide +kernel
theorem d2_16 : decode prog_168_method_19_code 16 = .ok (.istore 6, 2) := by decide +kernel
theorem d2_18 : decode prog_168_method_19_code 18 = .ok (.iload_n 3, 1) := by decide +kernel
theorem d2_19 : decode prog_168_method_19_code 19 = .ok (.sipush 194, 3) := by decide +kernel
theorem d2_22 : decode prog_168_method_19_code 22 = .ok (.if_icmp .lt 16, 3) := by decide +kernel
theorem d2_25 : decode prog_168_method_19_code 25 = .ok (.iload_n 3, 1) := by decide +kernel
theorem d2_26 : decode prog_168_method_19_code 26 = .ok (.sipush 223, 3) := by decide +kernel
theorem d2_29 : decode prog_168_method_19_code 29 = .ok (.if_icmp .gt 9, 3) := by decide +kernel
theorem d2_32 : decode prog_168_method_19_code 32 = .ok (.iconst 2, 1) := by decide +kernel
theorem d2_33 : decode prog_168_method_19_code 33 = .ok (.istore 4, 2) := by decide +kernel
theorem d2_35 : decode prog_168_method_19_code 35 = .ok (.goto 113, 3) := by decide +kernel
theorem d2_38 : decode prog_168_method_19_code 38 = .ok (.iload_n 3, 1) := by decide +kernel
theorem d2_39 : decode prog_168_method_19_code 39 = .ok (.sipush 224, 3) := by decide +kernel
theorem d2_42 : decode prog_168_method_19_code 42 = .ok (.if_icmp .lt 50, 3) := by decide +kernel
theorem d2_45 : decode prog_168_method_19_code 45 = .ok (.iload_n 3, 1) := by decide +kernel
theorem d2_46 : decode prog_168_method_19_code 46 = .ok (.sipush 239, 3) := by decide +kernel
theorem d2_49 : decode prog_168_method_19_code 49 = .ok (.if_icmp .gt 43, 3) := by decide +kernel
theorem d2_52 : decode prog_168_method_19_code 52 = .ok (.iconst 3, 1) := by decide +kernel
theorem d2_53 : decode prog_168_method_19_code 53 = .ok (.istore 4, 2) := by decide +kernel
theorem d2_55 : decode prog_168_method_19_code 55 = .ok (.iload_n 3, 1) := by decide +kernel
theorem d2_56 : decode prog_168_method_19_code 56 = .ok (.sipush 224, 3) := by decide +kernel
theorem d2_59 : decode prog_168_method_19_code 59 = .ok (.if_icmp .ne 9, 3) := by decide +kernel
theorem d2_62 : decode prog_168_method_19_code 62 = .ok (.sipush 160, 3) := by decide +kernel
theorem d2_65 : decode prog_168_method_19_code 65 = .ok (.goto 5, 3) := by decide +kernel
theorem d2_68 : decode prog_168_method_19_code 68 = .ok (.iload 5, 2) := by decide +kernel
theorem d2_70 : decode prog_168_method_19_code 70 = .ok (.istore 5, 2) := by decide +kernel
theorem d2_72 : decode prog_168_method_19_code 72 = .ok (.iload_n 3, 1) := by decide +kernel
theorem d2_73 : decode prog_168_method_19_code 73 = .ok (.sipush 237, 3) := by decide +kernel
theorem d2_76 : decode prog_168_method_19_code 76 = .ok (.if_icmp .ne 9, 3) := by decide +kernel
theorem d2_79 : decode prog_168_method_19_code 79 = .ok (.sipush 159, 3) := by decide +kernel
theorem d2_82 : decode prog_168_method_19_code 82 = .ok (.goto 5, 3) := by decide +kernel
theorem d2_85 : decode prog_168_method_19_code 85 = .ok (.iload 6, 2) := by decide +kernel
theorem d2_87 : decode prog_168_method_19_code 87 = .ok (.istore 6, 2) := by decide +kernel
theorem d2_89 : decode prog_168_method_19_code 89 = .ok (.goto 59, 3) := by decide +kernel
theorem d2_92 : decode prog_168_method_19_code 92 = .ok (.iload_n 3, 1) := by decide +kernel
theorem d2_93 : decode prog_168_method_19_code 93 = .ok (.sipush 240, 3) := by decide +kernel
theorem d2_96 : decode prog_168_method_19_code 96 = .ok (.if_icmp .lt 50, 3) := by decide +kernel
theorem d2_99 : decode prog_168_method_19_code 99 = .ok (.iload_n 3, 1) := by decide +kernel
theorem d2_100 : decode prog_168_method_19_code 100 = .ok (.sipush 244, 3) := by decide +kernel
theorem d2_103 : decode prog_168_method_19_code 103 = .ok (.if_icmp .gt 43, 3) := by decide +kernel
theorem d2_106 : decode prog_168_method_19_code 106 = .ok (.iconst 4, 1) := by decide +kernel
theorem d2_107 : decode prog_168_method_19_code 107 = .ok (.istore 4, 2) := by decide +kernel
theorem d2_109 : decode prog_168_method_19_code 109 = .ok (.iload_n 3, 1) := by decide +kernel
theorem d2_110 : decode prog_168_method_19_code 110 = .ok (.sipush 240, 3) := by decide +kernel
theorem d2_113 : decode prog_168_method_19_code 113 = .ok (.if_icmp .ne 9, 3) := by decide +kernel
theorem d2_116 : decode prog_168_method_19_code 116 = .ok (.sipush 144, 3) := by decide +kernel
theorem d2_119 : decode prog_168_method_19_code 119 = .ok (.goto 5, 3) := by decide +kernel
theorem d2_122 : decode prog_168_method_19_code 122 = .ok (.iload 5, 2) := by decide +kernel
theorem d2_124 : decode prog_168_method_19_code 124 = .ok (.istore 5, 2) := by decide +kernel
theorem d2_126 : decode prog_168_method_19_code 126 = .ok (.iload_n 3, 1) := by decide +kernel
theorem d2_127 : decode prog_168_method_19_code 127 = .ok (.sipush 244, 3) := by decide +kernel
theorem d2_130 : decode prog_168_method_19_code 130 = .ok (.if_icmp .ne 9, 3) := by decide +kernel
theorem d2_133 : decode prog_168_method_19_code 133 = .ok (.sipush 143, 3) := by decide +kernel
theorem d2_136 : decode prog_168_method_19_code 136 = .ok (.goto 5, 3) := by decide +kernel
theorem d2_139 : decode prog_168_method_19_code 139 = .ok (.iload 6, 2) := by decide +kernel
theorem d2_141 : decode prog_168_method_19_code 141 = .ok (.istore 6, 2) := by decide +kernel
theorem d2_143 : decode prog_168_method_19_code 143 = .ok (.goto 5, 3) := by decide +kernel
theorem d2_146 : decode prog_168_method_19_code 146 = .ok (.iconst (-1), 1) := by decide +kernel
theorem d2_147 : decode prog_168_method_19_code 147 = .ok (.ireturn, 1) := by decide +kernel
theorem d2_148 : decode prog_168_method_19_code 148 = .ok (.iconst 1, 1) := by decide +kernel
theorem d2_149 : decode prog_168_method_19_code 149 = .ok (.istore 7, 2) := by decide +kernel
theorem d2_151 : decode prog_168_method_19_code 151 = .ok (.iload 7, 2) := by decide +kernel
theorem d2_153 : decode prog_168_method_19_code 153 = .ok (.iload 4, 2) := by decide +kernel
theorem d2_155 : decode prog_168_method_19_code 155 = .ok (.if_icmp .ge 75, 3) := by decide +kernel
theorem d2_158 : decode prog_168_method_19_code 158 = .ok (.iload_n 1, 1) := by decide +kernel
theorem d2_159 : decode prog_168_method_19_code 159 = .ok (.iload 7, 2) := by decide +kernel
theorem d2_161 : decode prog_168_method_19_code 161 = .ok (.iadd, 1) := by decide +kernel
theorem d2_162 : decode prog_168_method_19_code 162 = .ok (.iload_n 2, 1) := by decide +kernel
theorem d2_163 : decode prog_168_method_19_code 163 = .ok (.if_icmp .lt 6, 3) := by decide +kernel
theorem d2_166 : decode prog_168_method_19_code 166 = .ok (.ldc 158, 2) := by decide +kernel
theorem d2_168 : decode prog_168_method_19_code 168 = .ok (.ireturn, 1) := by decide +kernel
theorem d2_169 : decode prog_168_method_19_code 169 = .ok (.aload_n 0, 1) := by decide +kernel
theorem d2_170 : decode prog_168_method_19_code 170 = .ok (.iload_n 1, 1) := by decide +kernel
theorem d2_171 : decode prog_168_method_19_code 171 = .ok (.iload 7, 2) := by decide +kernel
theorem d2_173 : decode prog_168_method_19_code 173 = .ok (.iadd, 1) := by decide +kernel
theorem d2_174 : decode prog_168_method_19_code 174 = .ok (.baload, 1) := by decide +kernel
theorem d2_175 : decode prog_168_method_19_code 175 = .ok (.sipush 255, 3) := by decide +kernel
theorem d2_178 : decode prog_168_method_19_code 178 = .ok (.iand, 1) := by decide +kernel
theorem d2_179 : decode prog_168_method_19_code 179 = .ok (.istore 8, 2) := by decide +kernel
theorem d2_181 : decode prog_168_method_19_code 181 = .ok (.iload 8, 2) := by decide +kernel
theorem d2_183 : decode prog_168_method_19_code 183 = .ok (.iload 7, 2) := by decide +kernel
theorem d2_185 : decode prog_168_method_19_code 185 = .ok (.iconst 1, 1) := by decide +kernel
theorem d2_186 : decode prog_168_method_19_code 186 = .ok (.if_icmp .ne 8, 3) := by decide +kernel
theorem d2_189 : decode prog_168_method_19_code 189 = .ok (.iload 5, 2) := by decide +kernel
theorem d2_191 : decode prog_168_method_19_code 191 = .ok (.goto 6, 3) := by decide +kernel
theorem d2_194 : decode prog_168_method_19_code 194 = .ok (.sipush 128, 3) := by decide +kernel
theorem d2_197 : decode prog_168_method_19_code 197 = .ok (.if_icmp .lt 22, 3) := by decide +kernel
theorem d2_200 : decode prog_168_method_19_code 200 = .ok (.iload 8, 2) := by decide +kernel
theorem d2_202 : decode prog_168_method_19_code 202 = .ok (.iload 7, 2) := by decide +kernel
theorem d2_204 : decode prog_168_method_19_code 204 = .ok (.iconst 1, 1) := by decide +kernel
theorem d2_205 : decode prog_168_method_19_code 205 = .ok (.if_icmp .ne 8, 3) := by decide +kernel
theorem d2_208 : decode prog_168_method_19_code 208 = .ok (.iload 6, 2) := by decide +kernel
theorem d2_210 : decode prog_168_method_19_code 210 = .ok (.goto 6, 3) := by decide +kernel
theorem d2_213 : decode prog_168_method_19_code 213 = .ok (.sipush 191, 3) := by decide +kernel
theorem d2_216 : decode prog_168_method_19_code 216 = .ok (.if_icmp .le 8, 3) := by decide +kernel
theorem d2_219 : decode prog_168_method_19_code 219 = .ok (.iconst (-1), 1) := by decide +kernel
theorem d2_220 : decode prog_168_method_19_code 220 = .ok (.iload 7, 2) := by decide +kernel
theorem d2_222 : decode prog_168_method_19_code 222 = .ok (.isub, 1) := by decide +kernel
theorem d2_223 : decode prog_168_method_19_code 223 = .ok (.ireturn, 1) := by decide +kernel
theorem d2_224 : decode prog_168_method_19_code 224 = .ok (.iinc 7 1, 3) := by decide +kernel
theorem d2_227 : decode prog_168_method_19_code 227 = .ok (.goto (-76), 3) := by decide +kernel
theorem d2_230 : decode prog_168_method_19_code 230 = .ok (.iload 4, 2) := by decide +kernel
theorem d2_232 : decode prog_168_method_19_code 232 = .ok (.ireturn, 1) := by decide +kernel
theorem pn_2 : plainName "com/example/kindgen/kindgen/runtime/Utf8Cursor" = true := by first | (simp [plainName, overriddenIn]; done) | decide +kernel
theorem pn_0 : plainName "com/example/kindgen/kindgen/runtime/Utf8CursorSequenceLengthPinLaw" = true := by first | (simp [plainName, overriddenIn]; done) | decide +kernel
theorem ef_1 (m : MethodId) (x0 : Int32) (x1 : Int32) (x2 : Int32) : entryFrame m #[(.int x0), (.int x1), (.int x2)] 3 = mkF m 0 #[.val (.int x0), .val (.int x1), .val (.int x2)] [] := by first | (simp [entryFrame, mkF, argsToLocals, Value.category]; done) | rfl
def sp1 (p1 : Int32) (p2 : Int32) (p3 : Int32) : Int32 := (if p1 < p2 then (0 : Int32) else (if p3 < p1 then (0 : Int32) else (1 : Int32)))
def Q1 (Z : State) (p1 : Int32) (p2 : Int32) (p3 : Int32) (h0 : Heap) (n0 : Nat) (v : Option Value) (h : Heap) (L : List Loc) : Prop := v = some (.int (sp1 p1 p2 p3)) ∧ Fr n0 L ∧ h = h0
set_option maxRecDepth 65536 in
set_option maxHeartbeats 40000000 in
theorem rm1 (l : Launch) (Z : State) (a0 : Array Value) (hw : ∀ d ∈ tables_1, d.before a0 Z = true) (ws : List Jvm.Cond) (p1 : Int32) (p2 : Int32) (p3 : Int32)  (h0 : Heap) (n0 : Nat) (Z0 : n0 ≤ h0.size)  :
    MetFree l (⟨"com/example/kindgen/kindgen/runtime/Utf8CursorSequenceLengthPinLaw", "in", "(III)Z"⟩ : MethodName) (head1 (Jvm.Cond.code (⟨"com/example/kindgen/kindgen/runtime/Utf8CursorSequenceLengthPinLaw", "in", "(III)Z"⟩ : MethodName) method_2_code 3 (some .boolean) :: ws) ({ frames := 0, cells := 0, slots := 0, locals := 0 } : Room)) (fun a U => a = #[(.int p1), (.int p2), (.int p3)] ∧ Z.Warmed39 U.vm ∧ U.heap = h0) (fun _ _ _ _ _ => True) (fun _ U o U' => ∃ v L, o = .returned v ∧ Q1 Z p1 p2 p3 h0 n0 v U'.heap L ∧ FrameEnd U o U' L ({ frames := 0, cells := 0, slots := 0, locals := 0 } : Room).cells ({ frames := 0, cells := 0, slots := 0, locals := 0 } : Room).slots) := by
  refine MetFree.of_bodySF (plainFor_of_name pn_1) hisR ?_
  intro p e s m args below meth c s₁ Bd hml0 hP hK
  obtain ⟨rfl, hZ, hh⟩ := hP
  have hx := Bd.exec
  have hby := Bd.bytes
  have X0 : Stand p l e ({ frames := 0, cells := 0, slots := 0, locals := 0 } : Room) s m #[(.int p1), (.int p2), (.int p3)] below meth c s₁ [] 0 0 := Stand.of_body Bd
  have e0 : s₁.heap = h0 := by rw [← hh, Bd.state]; rfl
  have N0 := Fr.nil n0
  have pre0 : ∀ t, Steps p.tables e below (s₁.setTop (mkF m 0 #[.val (.int p1), .val (.int p2), .val (.int p3)] [])) t → Steps p.tables e below (s₁.setTop (entryFrame m #[(.int p1), (.int p2), (.int p3)] 3)) t := fun t k => castTop (ef_1 m p1 p2 p3) k
  have pre1 : ∀ t, Steps p.tables e below (s₁.setTop (mkF m 2 #[.val (.int p1), .val (.int p2), .val (.int p3)] [(.int p2), (.int p1)])) t → Steps p.tables e below (s₁.setTop (entryFrame m #[(.int p1), (.int p2), (.int p3)] 3)) t := by
    intro t k
    refine pre0 t ?_
    show Steps p.tables e below (s₁.setTop (mkF m 0 #[.val (.int p1), .val (.int p2), .val (.int p3)] [])) _
    refine XS.iloadN X0.here hx rfl (hb hby d1_0) rfl ?_
    refine XS.iloadN X0.here hx rfl (hb hby d1_1) rfl ?_
    exact k
  by_cases hc2_2 : p1 < p2
  · obtain ⟨fs, hr, hrun, hended, hW, hsame⟩ := X0.leave (v := some (.int (0 : Int32))) (fun h => by rw [Bd.returns] at h; cases h)
    refine ⟨_, _, pre1 _ ?_, hrun, hended, _, _, rfl, ?_, ⟨_, rfl⟩, hW, hsame.mono (by decide) (by decide)⟩
    · show Steps p.tables e below (s₁.setTop (mkF m 2 #[.val (.int p1), .val (.int p2), .val (.int p3)] [(.int p2), (.int p1)])) _
      refine XS.icmpYes X0.here hx rfl (pc0 := 2) (pc' := 14) rfl (hb hby d1_2) rfl (tlt hc2_2).1 (by decide) (by decide) ?_
      refine XS.iconst X0.here hx rfl (hb hby d1_14) ?_
      show Steps p.tables e below (s₁.setTop (mkF m 15 #[.val (.int p1), .val (.int p2), .val (.int p3)] [(.int (0 : Int32))])) _
      exact retN X0 hx (t := .boolean) Bd.returns (by simp) (hb hby d1_15) hr
    · show Q1 Z p1 p2 p3 h0 n0 _ s₁.heap _
      rw [e0]
      exact ⟨by rw [sp1, if_pos hc2_2], N0, rfl⟩
  · have pre3 : ∀ t, Steps p.tables e below (s₁.setTop (mkF m 7 #[.val (.int p1), .val (.int p2), .val (.int p3)] [(.int p3), (.int p1)])) t → Steps p.tables e below (s₁.setTop (entryFrame m #[(.int p1), (.int p2), (.int p3)] 3)) t := by
      intro t k
      refine pre1 t ?_
      show Steps p.tables e below (s₁.setTop (mkF m 2 #[.val (.int p1), .val (.int p2), .val (.int p3)] [(.int p2), (.int p1)])) _
      refine XS.icmpNo X0.here hx rfl (hb hby d1_2) rfl (flt hc2_2).1 ?_
      refine XS.iloadN X0.here hx rfl (hb hby d1_5) rfl ?_
      refine XS.iloadN X0.here hx rfl (hb hby d1_6) rfl ?_
      exact k
    by_cases hc7_4 : p3 < p1
    · obtain ⟨fs, hr, hrun, hended, hW, hsame⟩ := X0.leave (v := some (.int (0 : Int32))) (fun h => by rw [Bd.returns] at h; cases h)
      refine ⟨_, _, pre3 _ ?_, hrun, hended, _, _, rfl, ?_, ⟨_, rfl⟩, hW, hsame.mono (by decide) (by decide)⟩
      · show Steps p.tables e below (s₁.setTop (mkF m 7 #[.val (.int p1), .val (.int p2), .val (.int p3)] [(.int p3), (.int p1)])) _
        refine XS.icmpYes X0.here hx rfl (pc0 := 7) (pc' := 14) rfl (hb hby d1_7) rfl (tlt hc7_4).2.2.1 (by decide) (by decide) ?_
        refine XS.iconst X0.here hx rfl (hb hby d1_14) ?_
        show Steps p.tables e below (s₁.setTop (mkF m 15 #[.val (.int p1), .val (.int p2), .val (.int p3)] [(.int (0 : Int32))])) _
        exact retN X0 hx (t := .boolean) Bd.returns (by simp) (hb hby d1_15) hr
      · show Q1 Z p1 p2 p3 h0 n0 _ s₁.heap _
        rw [e0]
        exact ⟨by rw [sp1, if_neg hc2_2, if_pos hc7_4], N0, rfl⟩
    · obtain ⟨fs, hr, hrun, hended, hW, hsame⟩ := X0.leave (v := some (.int (1 : Int32))) (fun h => by rw [Bd.returns] at h; cases h)
      refine ⟨_, _, pre3 _ ?_, hrun, hended, _, _, rfl, ?_, ⟨_, rfl⟩, hW, hsame.mono (by decide) (by decide)⟩
      · show Steps p.tables e below (s₁.setTop (mkF m 7 #[.val (.int p1), .val (.int p2), .val (.int p3)] [(.int p3), (.int p1)])) _
        refine XS.icmpNo X0.here hx rfl (hb hby d1_7) rfl (flt hc7_4).2.2.1 ?_
        refine XS.iconst X0.here hx rfl (hb hby d1_10) ?_
        refine XS.goto X0.here hx rfl (pc0 := 11) (pc' := 15) rfl (hb hby d1_11) (by decide) (by decide) ?_
        show Steps p.tables e below (s₁.setTop (mkF m 15 #[.val (.int p1), .val (.int p2), .val (.int p3)] [(.int (1 : Int32))])) _
        exact retN X0 hx (t := .boolean) Bd.returns (by simp) (hb hby d1_15) hr
      · show Q1 Z p1 p2 p3 h0 n0 _ s₁.heap _
        rw [e0]
        exact ⟨by rw [sp1, if_neg hc2_2, if_neg hc7_4], N0, rfl⟩
theorem own_in (x lo hi : Int32) : (sp1 x lo hi = 1 ∧ lo.toInt ≤ x.toInt ∧ x.toInt ≤ hi.toInt) ∨ (sp1 x lo hi = 0 ∧ (x.toInt < lo.toInt ∨ hi.toInt < x.toInt)) := by
  simp only [sp1, Int32.lt_iff_toInt_lt]
  repeat' split
  · exact Or.inr ⟨rfl, by omega⟩
  · exact Or.inr ⟨rfl, by omega⟩
  · exact Or.inl ⟨rfl, by omega, by omega⟩
def own_E (x b1 b2 b3 av : Int) : Int32 :=
  if x < 194 ∨ 244 < x then -1 else if av < 1 then -2147483648
  else if (x = 224 ∧ b1 < 160) ∨ (x = 240 ∧ b1 < 144) ∨ b1 < 128 ∨ (x = 237 ∧ 159 < b1) ∨ (x = 244 ∧ 143 < b1) ∨ 191 < b1 then -2
  else if x < 224 then 2 else if av < 2 then -2147483648 else if b2 < 128 ∨ 191 < b2 then -3
  else if x < 240 then 3 else if av < 3 then -2147483648 else if b3 < 128 ∨ 191 < b3 then -4 else 4
def own_T (len b1 b2 b3 av lo hi : Int) : Int32 :=
  if av < 1 then -2147483648 else if b1 < lo ∨ hi < b1 then -2
  else if len = 2 then 2 else if av < 2 then -2147483648 else if b2 < 128 ∨ 191 < b2 then -3
  else if len = 3 then 3 else if av < 3 then -2147483648 else if b3 < 128 ∨ 191 < b3 then -4 else 4
theorem own_T0 {len b1 b2 b3 av lo hi : Int} (h0 : av < 1) : own_T len b1 b2 b3 av lo hi = (-2147483648 : Int32) := by rw [own_T, if_pos h0]
theorem own_T1 {len b1 b2 b3 av lo hi : Int} (h0 : ¬ (av < 1)) (h1 : b1 < lo ∨ hi < b1) : own_T len b1 b2 b3 av lo hi = (-2 : Int32) := by rw [own_T, if_neg h0, if_pos h1]
theorem own_T2 {len b1 b2 b3 av lo hi : Int} (h0 : ¬ (av < 1)) (h1 : ¬ (b1 < lo ∨ hi < b1)) (h2 : len = 2) : own_T len b1 b2 b3 av lo hi = (2 : Int32) := by rw [own_T, if_neg h0, if_neg h1, if_pos h2]
theorem own_T3 {len b1 b2 b3 av lo hi : Int} (h0 : ¬ (av < 1)) (h1 : ¬ (b1 < lo ∨ hi < b1)) (h2 : ¬ (len = 2)) (h3 : av < 2) : own_T len b1 b2 b3 av lo hi = (-2147483648 : Int32) := by rw [own_T, if_neg h0, if_neg h1, if_neg h2, if_pos h3]
theorem own_T4 {len b1 b2 b3 av lo hi : Int} (h0 : ¬ (av < 1)) (h1 : ¬ (b1 < lo ∨ hi < b1)) (h2 : ¬ (len = 2)) (h3 : ¬ (av < 2)) (h4 : b2 < 128 ∨ 191 < b2) : own_T len b1 b2 b3 av lo hi = (-3 : Int32) := by rw [own_T, if_neg h0, if_neg h1, if_neg h2, if_neg h3, if_pos h4]
theorem own_T5 {len b1 b2 b3 av lo hi : Int} (h0 : ¬ (av < 1)) (h1 : ¬ (b1 < lo ∨ hi < b1)) (h2 : ¬ (len = 2)) (h3 : ¬ (av < 2)) (h4 : ¬ (b2 < 128 ∨ 191 < b2)) (h5 : len = 3) : own_T len b1 b2 b3 av lo hi = (3 : Int32) := by rw [own_T, if_neg h0, if_neg h1, if_neg h2, if_neg h3, if_neg h4, if_pos h5]
theorem own_T6 {len b1 b2 b3 av lo hi : Int} (h0 : ¬ (av < 1)) (h1 : ¬ (b1 < lo ∨ hi < b1)) (h2 : ¬ (len = 2)) (h3 : ¬ (av < 2)) (h4 : ¬ (b2 < 128 ∨ 191 < b2)) (h5 : ¬ (len = 3)) (h6 : av < 3) : own_T len b1 b2 b3 av lo hi = (-2147483648 : Int32) := by rw [own_T, if_neg h0, if_neg h1, if_neg h2, if_neg h3, if_neg h4, if_neg h5, if_pos h6]
theorem own_T7 {len b1 b2 b3 av lo hi : Int} (h0 : ¬ (av < 1)) (h1 : ¬ (b1 < lo ∨ hi < b1)) (h2 : ¬ (len = 2)) (h3 : ¬ (av < 2)) (h4 : ¬ (b2 < 128 ∨ 191 < b2)) (h5 : ¬ (len = 3)) (h6 : ¬ (av < 3)) (h7 : b3 < 128 ∨ 191 < b3) : own_T len b1 b2 b3 av lo hi = (-4 : Int32) := by rw [own_T, if_neg h0, if_neg h1, if_neg h2, if_neg h3, if_neg h4, if_neg h5, if_neg h6, if_pos h7]
theorem own_T8 {len b1 b2 b3 av lo hi : Int} (h0 : ¬ (av < 1)) (h1 : ¬ (b1 < lo ∨ hi < b1)) (h2 : ¬ (len = 2)) (h3 : ¬ (av < 2)) (h4 : ¬ (b2 < 128 ∨ 191 < b2)) (h5 : ¬ (len = 3)) (h6 : ¬ (av < 3)) (h7 : ¬ (b3 < 128 ∨ 191 < b3)) : own_T len b1 b2 b3 av lo hi = (4 : Int32) := by rw [own_T, if_neg h0, if_neg h1, if_neg h2, if_neg h3, if_neg h4, if_neg h5, if_neg h6, if_neg h7]
theorem own_E0 {x b1 b2 b3 av : Int} (h0 : x < 194 ∨ 244 < x) : own_E x b1 b2 b3 av = (-1 : Int32) := by rw [own_E, if_pos h0]
theorem own_E1 {x b1 b2 b3 av : Int} (h0 : ¬ (x < 194 ∨ 244 < x)) (h1 : av < 1) : own_E x b1 b2 b3 av = (-2147483648 : Int32) := by rw [own_E, if_neg h0, if_pos h1]
theorem own_E2 {x b1 b2 b3 av : Int} (h0 : ¬ (x < 194 ∨ 244 < x)) (h1 : ¬ (av < 1)) (h2 : (x = 224 ∧ b1 < 160) ∨ (x = 240 ∧ b1 < 144) ∨ b1 < 128 ∨ (x = 237 ∧ 159 < b1) ∨ (x = 244 ∧ 143 < b1) ∨ 191 < b1) : own_E x b1 b2 b3 av = (-2 : Int32) := by rw [own_E, if_neg h0, if_neg h1, if_pos h2]
theorem own_E3 {x b1 b2 b3 av : Int} (h0 : ¬ (x < 194 ∨ 244 < x)) (h1 : ¬ (av < 1)) (h2 : ¬ ((x = 224 ∧ b1 < 160) ∨ (x = 240 ∧ b1 < 144) ∨ b1 < 128 ∨ (x = 237 ∧ 159 < b1) ∨ (x = 244 ∧ 143 < b1) ∨ 191 < b1)) (h3 : x < 224) : own_E x b1 b2 b3 av = (2 : Int32) := by rw [own_E, if_neg h0, if_neg h1, if_neg h2, if_pos h3]
theorem own_E4 {x b1 b2 b3 av : Int} (h0 : ¬ (x < 194 ∨ 244 < x)) (h1 : ¬ (av < 1)) (h2 : ¬ ((x = 224 ∧ b1 < 160) ∨ (x = 240 ∧ b1 < 144) ∨ b1 < 128 ∨ (x = 237 ∧ 159 < b1) ∨ (x = 244 ∧ 143 < b1) ∨ 191 < b1)) (h3 : ¬ (x < 224)) (h4 : av < 2) : own_E x b1 b2 b3 av = (-2147483648 : Int32) := by rw [own_E, if_neg h0, if_neg h1, if_neg h2, if_neg h3, if_pos h4]
theorem own_E5 {x b1 b2 b3 av : Int} (h0 : ¬ (x < 194 ∨ 244 < x)) (h1 : ¬ (av < 1)) (h2 : ¬ ((x = 224 ∧ b1 < 160) ∨ (x = 240 ∧ b1 < 144) ∨ b1 < 128 ∨ (x = 237 ∧ 159 < b1) ∨ (x = 244 ∧ 143 < b1) ∨ 191 < b1)) (h3 : ¬ (x < 224)) (h4 : ¬ (av < 2)) (h5 : b2 < 128 ∨ 191 < b2) : own_E x b1 b2 b3 av = (-3 : Int32) := by rw [own_E, if_neg h0, if_neg h1, if_neg h2, if_neg h3, if_neg h4, if_pos h5]
theorem own_E6 {x b1 b2 b3 av : Int} (h0 : ¬ (x < 194 ∨ 244 < x)) (h1 : ¬ (av < 1)) (h2 : ¬ ((x = 224 ∧ b1 < 160) ∨ (x = 240 ∧ b1 < 144) ∨ b1 < 128 ∨ (x = 237 ∧ 159 < b1) ∨ (x = 244 ∧ 143 < b1) ∨ 191 < b1)) (h3 : ¬ (x < 224)) (h4 : ¬ (av < 2)) (h5 : ¬ (b2 < 128 ∨ 191 < b2)) (h6 : x < 240) : own_E x b1 b2 b3 av = (3 : Int32) := by rw [own_E, if_neg h0, if_neg h1, if_neg h2, if_neg h3, if_neg h4, if_neg h5, if_pos h6]
theorem own_E7 {x b1 b2 b3 av : Int} (h0 : ¬ (x < 194 ∨ 244 < x)) (h1 : ¬ (av < 1)) (h2 : ¬ ((x = 224 ∧ b1 < 160) ∨ (x = 240 ∧ b1 < 144) ∨ b1 < 128 ∨ (x = 237 ∧ 159 < b1) ∨ (x = 244 ∧ 143 < b1) ∨ 191 < b1)) (h3 : ¬ (x < 224)) (h4 : ¬ (av < 2)) (h5 : ¬ (b2 < 128 ∨ 191 < b2)) (h6 : ¬ (x < 240)) (h7 : av < 3) : own_E x b1 b2 b3 av = (-2147483648 : Int32) := by rw [own_E, if_neg h0, if_neg h1, if_neg h2, if_neg h3, if_neg h4, if_neg h5, if_neg h6, if_pos h7]
theorem own_E8 {x b1 b2 b3 av : Int} (h0 : ¬ (x < 194 ∨ 244 < x)) (h1 : ¬ (av < 1)) (h2 : ¬ ((x = 224 ∧ b1 < 160) ∨ (x = 240 ∧ b1 < 144) ∨ b1 < 128 ∨ (x = 237 ∧ 159 < b1) ∨ (x = 244 ∧ 143 < b1) ∨ 191 < b1)) (h3 : ¬ (x < 224)) (h4 : ¬ (av < 2)) (h5 : ¬ (b2 < 128 ∨ 191 < b2)) (h6 : ¬ (x < 240)) (h7 : ¬ (av < 3)) (h8 : b3 < 128 ∨ 191 < b3) : own_E x b1 b2 b3 av = (-4 : Int32) := by rw [own_E, if_neg h0, if_neg h1, if_neg h2, if_neg h3, if_neg h4, if_neg h5, if_neg h6, if_neg h7, if_pos h8]
theorem own_E9 {x b1 b2 b3 av : Int} (h0 : ¬ (x < 194 ∨ 244 < x)) (h1 : ¬ (av < 1)) (h2 : ¬ ((x = 224 ∧ b1 < 160) ∨ (x = 240 ∧ b1 < 144) ∨ b1 < 128 ∨ (x = 237 ∧ 159 < b1) ∨ (x = 244 ∧ 143 < b1) ∨ 191 < b1)) (h3 : ¬ (x < 224)) (h4 : ¬ (av < 2)) (h5 : ¬ (b2 < 128 ∨ 191 < b2)) (h6 : ¬ (x < 240)) (h7 : ¬ (av < 3)) (h8 : ¬ (b3 < 128 ∨ 191 < b3)) : own_E x b1 b2 b3 av = (4 : Int32) := by rw [own_E, if_neg h0, if_neg h1, if_neg h2, if_neg h3, if_neg h4, if_neg h5, if_neg h6, if_neg h7, if_neg h8]
theorem lf2_0 (x0 x1 x2 x3 o1 o2 o3 oo lm lo hi : Int) (h0 : o1 = oo + 1) (h1 : o2 = oo + 2) (h2 : o3 = oo + 3) (h3 : o1 < lm) (h4 : x1 < lo) : own_T 2 x1 x2 x3 (lm - oo - 1) lo hi = (-2 : Int32) := own_T1 (by omega) (by omega)
theorem lf2_1 (x0 x1 x2 x3 o1 o2 o3 oo lm lo hi : Int) (h0 : o1 = oo + 1) (h1 : o2 = oo + 2) (h2 : o3 = oo + 3) (h3 : o1 < lm) (h4 : ¬ (x1 < lo)) (h5 : hi < x1) : own_T 2 x1 x2 x3 (lm - oo - 1) lo hi = (-2 : Int32) := own_T1 (by omega) (by omega)
theorem lf2_2 (x0 x1 x2 x3 o1 o2 o3 oo lm lo hi : Int) (h0 : o1 = oo + 1) (h1 : o2 = oo + 2) (h2 : o3 = oo + 3) (h3 : o1 < lm) (h4 : ¬ (x1 < lo)) (h5 : ¬ (hi < x1)) : own_T 2 x1 x2 x3 (lm - oo - 1) lo hi = (2 : Int32) := own_T2 (by omega) (by omega) (by omega)
theorem lf2_3 (x0 x1 x2 x3 o1 o2 o3 oo lm lo hi : Int) (h0 : o1 = oo + 1) (h1 : o2 = oo + 2) (h2 : o3 = oo + 3) (h3 : ¬ (o1 < lm)) : own_T 2 x1 x2 x3 (lm - oo - 1) lo hi = (-2147483648 : Int32) := own_T0 (by omega)
set_option maxRecDepth 65536 in
set_option maxHeartbeats 40000000 in
theorem segT2 {p : Program} {l : Launch} {e : Env} {s : State} {m : MethodId} {args : Array Value} {below : List Frame} {meth : Method} {c : Code} {T0 : State} {locs : List Loc} {Z : State} {a0 : Array Value} {h0 : Heap} {n0 : Nat} {R : Room} (a1 : Addr) (p2 p3 xx lo hi : Int32) (cl : Cell) (c0 c1 c2 c3 : Int32) (X0 : Stand p l e R s m args below meth c T0 locs 0 0) (hx : p.tables.exec = Jvm.exec) (hZ : Z.Warmed39 s.vm) (hw : ∀ d ∈ tables_1, d.before a0 Z = true) (hby : c.code = prog_168_method_19_code) (hml : c.maxLocals = 9) (hown : s.vm.findClass "com/example/kindgen/kindgen/runtime/Utf8Cursor" = some m.cls) (e0 : T0.heap = h0) (Z0 : n0 ≤ h0.size) (N0 : Fr n0 locs) (Ar : Arr Z h0 a1 cl .byte) (hin0 : ¬ (p2 < 0 ∨ cl.slots.size ≤ (p2).toNatClampNeg)) (hat0 : cl.slots[(p2).toNatClampNeg]? = some (.int c0)) (hin1 : ¬ ((p2 + (1 : Int32)) < 0 ∨ cl.slots.size ≤ ((p2 + (1 : Int32))).toNatClampNeg)) (hat1 : cl.slots[((p2 + (1 : Int32))).toNatClampNeg]? = some (.int c1)) (hin2 : ¬ ((p2 + (2 : Int32)) < 0 ∨ cl.slots.size ≤ ((p2 + (2 : Int32))).toNatClampNeg)) (hat2 : cl.slots[((p2 + (2 : Int32))).toNatClampNeg]? = some (.int c2)) (hin3 : ¬ ((p2 + (3 : Int32)) < 0 ∨ cl.slots.size ≤ ((p2 + (3 : Int32))).toNatClampNeg)) (hat3 : cl.slots[((p2 + (3 : Int32))).toNatClampNeg]? = some (.int c3)) (ho1 : ((p2 + (1 : Int32))).toInt = p2.toInt + 1) (ho2 : ((p2 + (2 : Int32))).toInt = p2.toInt + 2) (ho3 : ((p2 + (3 : Int32))).toInt = p2.toInt + 3) :
    ∃ (pc : Nat) (Ls : Array Slot), decode c.code pc = .ok (.ireturn, 1) ∧ ∀ t, Steps p.tables e below (T0.setTop (mkF m pc Ls [.int (own_T 2 (c1 &&& (255 : Int32)).toInt (c2 &&& (255 : Int32)).toInt (c3 &&& (255 : Int32)).toInt (p3.toInt - p2.toInt - 1) lo.toInt hi.toInt)])) t → Steps p.tables e below (T0.setTop (mkF m 151 #[.val (.ref a1), .val (.int p2), .val (.int p3), .val (.int xx), .val (.int (2 : Int32)), .val (.int lo), .val (.int hi), .val (.int (1 : Int32)), .unset] [])) t := by
  have pre0 : ∀ t, Steps p.tables e below (T0.setTop (mkF m 151 #[.val (.ref a1), .val (.int p2), .val (.int p3), .val (.int xx), .val (.int (2 : Int32)), .val (.int lo), .val (.int hi), .val (.int (1 : Int32)), .unset] [])) t → Steps p.tables e below (T0.setTop (mkF m 151 #[.val (.ref a1), .val (.int p2), .val (.int p3), .val (.int xx), .val (.int (2 : Int32)), .val (.int lo), .val (.int hi), .val (.int (1 : Int32)), .unset] [])) t := fun t k => k
  have pre1 : ∀ t, Steps p.tables e below (T0.setTop (mkF m 163 #[.val (.ref a1), .val (.int p2), .val (.int p3), .val (.int xx), .val (.int (2 : Int32)), .val (.int lo), .val (.int hi), .val (.int (1 : Int32)), .unset] [(.int p3), (.int (p2 + (1 : Int32)))])) t → Steps p.tables e below (T0.setTop (mkF m 151 #[.val (.ref a1), .val (.int p2), .val (.int p3), .val (.int xx), .val (.int (2 : Int32)), .val (.int lo), .val (.int hi), .val (.int (1 : Int32)), .unset] [])) t := by
    intro t k
    refine pre0 t ?_
    show Steps p.tables e below (T0.setTop (mkF m 151 #[.val (.ref a1), .val (.int p2), .val (.int p3), .val (.int xx), .val (.int (2 : Int32)), .val (.int lo), .val (.int hi), .val (.int (1 : Int32)), .unset] [])) _
    refine XS.iload X0.here hx rfl (hb hby d2_151) rfl ?_
    refine XS.iload X0.here hx rfl (hb hby d2_153) rfl ?_
    show Steps p.tables e below (T0.setTop (mkF m 155 #[.val (.ref a1), .val (.int p2), .val (.int p3), .val (.int xx), .val (.int (2 : Int32)), .val (.int lo), .val (.int hi), .val (.int (1 : Int32)), .unset] [(.int (2 : Int32)), (.int (1 : Int32))])) _
    refine XS.icmpNo X0.here hx rfl (hb hby d2_155) rfl (tlt (by decide : (1 : Int32) < (2 : Int32))).2.1 ?_
    refine XS.iloadN X0.here hx rfl (hb hby d2_158) rfl ?_
    refine XS.iload X0.here hx rfl (hb hby d2_159) rfl ?_
    refine XS.iadd X0.here hx rfl (hb hby d2_161) rfl ?_
    show Steps p.tables e below (T0.setTop (mkF m 162 #[.val (.ref a1), .val (.int p2), .val (.int p3), .val (.int xx), .val (.int (2 : Int32)), .val (.int lo), .val (.int hi), .val (.int (1 : Int32)), .unset] [(.int (p2 + (1 : Int32)))])) _
    refine XS.iloadN X0.here hx rfl (hb hby d2_162) rfl ?_
    exact k
  by_cases hc163_2 : (p2 + (1 : Int32)) < p3
  · have i_hc163_2 : (p2 + (1 : Int32)).toInt < p3.toInt := (Int32.lt_iff_toInt_lt).mp hc163_2
    have pre3 : ∀ t, Steps p.tables e below (T0.setTop (mkF m 197 #[.val (.ref a1), .val (.int p2), .val (.int p3), .val (.int xx), .val (.int (2 : Int32)), .val (.int lo), .val (.int hi), .val (.int (1 : Int32)), .val (.int (c1 &&& (255 : Int32)))] [(.int lo), (.int (c1 &&& (255 : Int32)))])) t → Steps p.tables e below (T0.setTop (mkF m 151 #[.val (.ref a1), .val (.int p2), .val (.int p3), .val (.int xx), .val (.int (2 : Int32)), .val (.int lo), .val (.int hi), .val (.int (1 : Int32)), .unset] [])) t := by
      intro t k
      refine pre1 t ?_
      show Steps p.tables e below (T0.setTop (mkF m 163 #[.val (.ref a1), .val (.int p2), .val (.int p3), .val (.int xx), .val (.int (2 : Int32)), .val (.int lo), .val (.int hi), .val (.int (1 : Int32)), .unset] [(.int p3), (.int (p2 + (1 : Int32)))])) _
      refine XS.icmpYes X0.here hx rfl (pc0 := 163) (pc' := 169) rfl (hb hby d2_163) rfl (tlt hc163_2).1 (by decide) (by decide) ?_
      refine XS.aloadN X0.here hx rfl (hb hby d2_169) rfl rfl ?_
      refine XS.iloadN X0.here hx rfl (hb hby d2_170) rfl ?_
      refine XS.iload X0.here hx rfl (hb hby d2_171) rfl ?_
      show Steps p.tables e below (T0.setTop (mkF m 173 #[.val (.ref a1), .val (.int p2), .val (.int p3), .val (.int xx), .val (.int (2 : Int32)), .val (.int lo), .val (.int hi), .val (.int (1 : Int32)), .unset] [(.int (1 : Int32)), (.int p2), (.ref a1)])) _
      refine XS.iadd X0.here hx rfl (hb hby d2_173) rfl ?_
      show Steps p.tables e below (T0.setTop (mkF m 174 #[.val (.ref a1), .val (.int p2), .val (.int p3), .val (.int xx), .val (.int (2 : Int32)), .val (.int lo), .val (.int hi), .val (.int (1 : Int32)), .unset] [(.int (p2 + (1 : Int32))), (.ref a1)])) _
      refine X0.baloadBytes hx (j := (p2 + (1 : Int32))) (v := (.int c1)) (by rw [e0]; exact Ar.1) (State.isArrayOf_alike hZ.alike Ar.2.1) Ar.2.2 hin1 hat1 (g := (mkF m 174 #[.val (.ref a1), .val (.int p2), .val (.int p3), .val (.int xx), .val (.int (2 : Int32)), .val (.int lo), .val (.int hi), .val (.int (1 : Int32)), .unset] [(.int (p2 + (1 : Int32))), (.ref a1)])) rfl rfl (hb hby d2_174) _ ?_
      refine XS.sipush X0.here hx rfl (hb hby d2_175) ?_
      refine XS.iand X0.here hx rfl (hb hby d2_178) rfl ?_
      refine XS.istore X0.here hx rfl (hb hby d2_179) rfl (l' := #[.val (.ref a1), .val (.int p2), .val (.int p3), .val (.int xx), .val (.int (2 : Int32)), .val (.int lo), .val (.int hi), .val (.int (1 : Int32)), .val (.int (c1 &&& (255 : Int32)))]) rfl ?_
      show Steps p.tables e below (T0.setTop (mkF m 181 #[.val (.ref a1), .val (.int p2), .val (.int p3), .val (.int xx), .val (.int (2 : Int32)), .val (.int lo), .val (.int hi), .val (.int (1 : Int32)), .val (.int (c1 &&& (255 : Int32)))] [])) _
      refine XS.iload X0.here hx rfl (hb hby d2_181) rfl ?_
      refine XS.iload X0.here hx rfl (hb hby d2_183) rfl ?_
      refine XS.iconst X0.here hx rfl (hb hby d2_185) ?_
      show Steps p.tables e below (T0.setTop (mkF m 186 #[.val (.ref a1), .val (.int p2), .val (.int p3), .val (.int xx), .val (.int (2 : Int32)), .val (.int lo), .val (.int hi), .val (.int (1 : Int32)), .val (.int (c1 &&& (255 : Int32)))] [(.int (1 : Int32)), (.int (1 : Int32)), (.int (c1 &&& (255 : Int32)))])) _
      refine XS.icmpNo X0.here hx rfl (hb hby d2_186) rfl (teq (by decide : (1 : Int32) = (1 : Int32))).2 ?_
      refine XS.iload X0.here hx rfl (hb hby d2_189) rfl ?_
      refine XS.goto X0.here hx rfl (pc0 := 191) (pc' := 197) rfl (hb hby d2_191) (by decide) (by decide) ?_
      exact k
    by_cases hc197_4 : (c1 &&& (255 : Int32)) < lo
    · have i_hc197_4 : (c1 &&& (255 : Int32)).toInt < lo.toInt := (Int32.lt_iff_toInt_lt).mp hc197_4
      have pre5 : ∀ t, Steps p.tables e below (T0.setTop (mkF m 223 #[.val (.ref a1), .val (.int p2), .val (.int p3), .val (.int xx), .val (.int (2 : Int32)), .val (.int lo), .val (.int hi), .val (.int (1 : Int32)), .val (.int (c1 &&& (255 : Int32)))] [(.int (-2 : Int32))])) t → Steps p.tables e below (T0.setTop (mkF m 151 #[.val (.ref a1), .val (.int p2), .val (.int p3), .val (.int xx), .val (.int (2 : Int32)), .val (.int lo), .val (.int hi), .val (.int (1 : Int32)), .unset] [])) t := by
        intro t k
        refine pre3 t ?_
        show Steps p.tables e below (T0.setTop (mkF m 197 #[.val (.ref a1), .val (.int p2), .val (.int p3), .val (.int xx), .val (.int (2 : Int32)), .val (.int lo), .val (.int hi), .val (.int (1 : Int32)), .val (.int (c1 &&& (255 : Int32)))] [(.int lo), (.int (c1 &&& (255 : Int32)))])) _
        refine XS.icmpYes X0.here hx rfl (pc0 := 197) (pc' := 219) rfl (hb hby d2_197) rfl (tlt hc197_4).1 (by decide) (by decide) ?_
        refine XS.iconst X0.here hx rfl (hb hby d2_219) ?_
        refine XS.iload X0.here hx rfl (hb hby d2_220) rfl ?_
        show Steps p.tables e below (T0.setTop (mkF m 222 #[.val (.ref a1), .val (.int p2), .val (.int p3), .val (.int xx), .val (.int (2 : Int32)), .val (.int lo), .val (.int hi), .val (.int (1 : Int32)), .val (.int (c1 &&& (255 : Int32)))] [(.int (1 : Int32)), (.int (-1 : Int32))])) _
        refine XS.isub X0.here hx rfl (hb hby d2_222) rfl ?_
        exact k
      have eT : own_T 2 (c1 &&& (255 : Int32)).toInt (c2 &&& (255 : Int32)).toInt (c3 &&& (255 : Int32)).toInt (p3.toInt - p2.toInt - 1) lo.toInt hi.toInt = (-2 : Int32) := (lf2_0 ((c0 &&& (255 : Int32)).toInt) ((c1 &&& (255 : Int32)).toInt) ((c2 &&& (255 : Int32)).toInt) ((c3 &&& (255 : Int32)).toInt) ((p2 + (1 : Int32)).toInt) ((p2 + (2 : Int32)).toInt) ((p2 + (3 : Int32)).toInt) (p2.toInt) (p3.toInt) (lo.toInt) (hi.toInt) ho1 ho2 ho3 i_hc163_2 i_hc197_4)
      refine ⟨223, #[.val (.ref a1), .val (.int p2), .val (.int p3), .val (.int xx), .val (.int (2 : Int32)), .val (.int lo), .val (.int hi), .val (.int (1 : Int32)), .val (.int (c1 &&& (255 : Int32)))], hb hby d2_223, fun t k => pre5 t ?_⟩
      rw [eT] at k
      exact k
    · have i_hc197_4 : ¬ ((c1 &&& (255 : Int32)).toInt < lo.toInt) := fun q => hc197_4 ((Int32.lt_iff_toInt_lt).mpr q)
      have pre6 : ∀ t, Steps p.tables e below (T0.setTop (mkF m 216 #[.val (.ref a1), .val (.int p2), .val (.int p3), .val (.int xx), .val (.int (2 : Int32)), .val (.int lo), .val (.int hi), .val (.int (1 : Int32)), .val (.int (c1 &&& (255 : Int32)))] [(.int hi), (.int (c1 &&& (255 : Int32)))])) t → Steps p.tables e below (T0.setTop (mkF m 151 #[.val (.ref a1), .val (.int p2), .val (.int p3), .val (.int xx), .val (.int (2 : Int32)), .val (.int lo), .val (.int hi), .val (.int (1 : Int32)), .unset] [])) t := by
        intro t k
        refine pre3 t ?_
        show Steps p.tables e below (T0.setTop (mkF m 197 #[.val (.ref a1), .val (.int p2), .val (.int p3), .val (.int xx), .val (.int (2 : Int32)), .val (.int lo), .val (.int hi), .val (.int (1 : Int32)), .val (.int (c1 &&& (255 : Int32)))] [(.int lo), (.int (c1 &&& (255 : Int32)))])) _
        refine XS.icmpNo X0.here hx rfl (hb hby d2_197) rfl (flt hc197_4).1 ?_
        refine XS.iload X0.here hx rfl (hb hby d2_200) rfl ?_
        refine XS.iload X0.here hx rfl (hb hby d2_202) rfl ?_
        refine XS.iconst X0.here hx rfl (hb hby d2_204) ?_
        show Steps p.tables e below (T0.setTop (mkF m 205 #[.val (.ref a1), .val (.int p2), .val (.int p3), .val (.int xx), .val (.int (2 : Int32)), .val (.int lo), .val (.int hi), .val (.int (1 : Int32)), .val (.int (c1 &&& (255 : Int32)))] [(.int (1 : Int32)), (.int (1 : Int32)), (.int (c1 &&& (255 : Int32)))])) _
        refine XS.icmpNo X0.here hx rfl (hb hby d2_205) rfl (teq (by decide : (1 : Int32) = (1 : Int32))).2 ?_
        refine XS.iload X0.here hx rfl (hb hby d2_208) rfl ?_
        refine XS.goto X0.here hx rfl (pc0 := 210) (pc' := 216) rfl (hb hby d2_210) (by decide) (by decide) ?_
        exact k
      by_cases hc216_7 : hi < (c1 &&& (255 : Int32))
      · have i_hc216_7 : hi.toInt < (c1 &&& (255 : Int32)).toInt := (Int32.lt_iff_toInt_lt).mp hc216_7
        have pre8 : ∀ t, Steps p.tables e below (T0.setTop (mkF m 223 #[.val (.ref a1), .val (.int p2), .val (.int p3), .val (.int xx), .val (.int (2 : Int32)), .val (.int lo), .val (.int hi), .val (.int (1 : Int32)), .val (.int (c1 &&& (255 : Int32)))] [(.int (-2 : Int32))])) t → Steps p.tables e below (T0.setTop (mkF m 151 #[.val (.ref a1), .val (.int p2), .val (.int p3), .val (.int xx), .val (.int (2 : Int32)), .val (.int lo), .val (.int hi), .val (.int (1 : Int32)), .unset] [])) t := by
          intro t k
          refine pre6 t ?_
          show Steps p.tables e below (T0.setTop (mkF m 216 #[.val (.ref a1), .val (.int p2), .val (.int p3), .val (.int xx), .val (.int (2 : Int32)), .val (.int lo), .val (.int hi), .val (.int (1 : Int32)), .val (.int (c1 &&& (255 : Int32)))] [(.int hi), (.int (c1 &&& (255 : Int32)))])) _
          refine XS.icmpNo X0.here hx rfl (hb hby d2_216) rfl (tlt hc216_7).2.2.2 ?_
          refine XS.iconst X0.here hx rfl (hb hby d2_219) ?_
          refine XS.iload X0.here hx rfl (hb hby d2_220) rfl ?_
          show Steps p.tables e below (T0.setTop (mkF m 222 #[.val (.ref a1), .val (.int p2), .val (.int p3), .val (.int xx), .val (.int (2 : Int32)), .val (.int lo), .val (.int hi), .val (.int (1 : Int32)), .val (.int (c1 &&& (255 : Int32)))] [(.int (1 : Int32)), (.int (-1 : Int32))])) _
          refine XS.isub X0.here hx rfl (hb hby d2_222) rfl ?_
          exact k
        have eT : own_T 2 (c1 &&& (255 : Int32)).toInt (c2 &&& (255 : Int32)).toInt (c3 &&& (255 : Int32)).toInt (p3.toInt - p2.toInt - 1) lo.toInt hi.toInt = (-2 : Int32) := (lf2_1 ((c0 &&& (255 : Int32)).toInt) ((c1 &&& (255 : Int32)).toInt) ((c2 &&& (255 : Int32)).toInt) ((c3 &&& (255 : Int32)).toInt) ((p2 + (1 : Int32)).toInt) ((p2 + (2 : Int32)).toInt) ((p2 + (3 : Int32)).toInt) (p2.toInt) (p3.toInt) (lo.toInt) (hi.toInt) ho1 ho2 ho3 i_hc163_2 i_hc197_4 i_hc216_7)
        refine ⟨223, #[.val (.ref a1), .val (.int p2), .val (.int p3), .val (.int xx), .val (.int (2 : Int32)), .val (.int lo), .val (.int hi), .val (.int (1 : Int32)), .val (.int (c1 &&& (255 : Int32)))], hb hby d2_223, fun t k => pre8 t ?_⟩
        rw [eT] at k
        exact k
      · have i_hc216_7 : ¬ (hi.toInt < (c1 &&& (255 : Int32)).toInt) := fun q => hc216_7 ((Int32.lt_iff_toInt_lt).mpr q)
        have pre9 : ∀ t, Steps p.tables e below (T0.setTop (mkF m 232 #[.val (.ref a1), .val (.int p2), .val (.int p3), .val (.int xx), .val (.int (2 : Int32)), .val (.int lo), .val (.int hi), .val (.int (2 : Int32)), .val (.int (c1 &&& (255 : Int32)))] [(.int (2 : Int32))])) t → Steps p.tables e below (T0.setTop (mkF m 151 #[.val (.ref a1), .val (.int p2), .val (.int p3), .val (.int xx), .val (.int (2 : Int32)), .val (.int lo), .val (.int hi), .val (.int (1 : Int32)), .unset] [])) t := by
          intro t k
          refine pre6 t ?_
          show Steps p.tables e below (T0.setTop (mkF m 216 #[.val (.ref a1), .val (.int p2), .val (.int p3), .val (.int xx), .val (.int (2 : Int32)), .val (.int lo), .val (.int hi), .val (.int (1 : Int32)), .val (.int (c1 &&& (255 : Int32)))] [(.int hi), (.int (c1 &&& (255 : Int32)))])) _
          refine XS.icmpYes X0.here hx rfl (pc0 := 216) (pc' := 224) rfl (hb hby d2_216) rfl (flt hc216_7).2.2.2 (by decide) (by decide) ?_
          show Steps p.tables e below (T0.setTop (mkF m 224 #[.val (.ref a1), .val (.int p2), .val (.int p3), .val (.int xx), .val (.int (2 : Int32)), .val (.int lo), .val (.int hi), .val (.int (1 : Int32)), .val (.int (c1 &&& (255 : Int32)))] [])) _
          refine XS.iinc X0.here hx rfl (hb hby d2_224) rfl (l' := #[.val (.ref a1), .val (.int p2), .val (.int p3), .val (.int xx), .val (.int (2 : Int32)), .val (.int lo), .val (.int hi), .val (.int (2 : Int32)), .val (.int (c1 &&& (255 : Int32)))]) rfl ?_
          refine XS.goto X0.here hx rfl (pc0 := 227) (pc' := 151) rfl (hb hby d2_227) (by decide) (by decide) ?_
          refine XS.iload X0.here hx rfl (hb hby d2_151) rfl ?_
          refine XS.iload X0.here hx rfl (hb hby d2_153) rfl ?_
          show Steps p.tables e below (T0.setTop (mkF m 155 #[.val (.ref a1), .val (.int p2), .val (.int p3), .val (.int xx), .val (.int (2 : Int32)), .val (.int lo), .val (.int hi), .val (.int (2 : Int32)), .val (.int (c1 &&& (255 : Int32)))] [(.int (2 : Int32)), (.int (2 : Int32))])) _
          refine XS.icmpYes X0.here hx rfl (pc0 := 155) (pc' := 230) rfl (hb hby d2_155) rfl (flt (by decide : ¬ ((2 : Int32) < (2 : Int32)))).2.1 (by decide) (by decide) ?_
          refine XS.iload X0.here hx rfl (hb hby d2_230) rfl ?_
          exact k
        have eT : own_T 2 (c1 &&& (255 : Int32)).toInt (c2 &&& (255 : Int32)).toInt (c3 &&& (255 : Int32)).toInt (p3.toInt - p2.toInt - 1) lo.toInt hi.toInt = (2 : Int32) := (lf2_2 ((c0 &&& (255 : Int32)).toInt) ((c1 &&& (255 : Int32)).toInt) ((c2 &&& (255 : Int32)).toInt) ((c3 &&& (255 : Int32)).toInt) ((p2 + (1 : Int32)).toInt) ((p2 + (2 : Int32)).toInt) ((p2 + (3 : Int32)).toInt) (p2.toInt) (p3.toInt) (lo.toInt) (hi.toInt) ho1 ho2 ho3 i_hc163_2 i_hc197_4 i_hc216_7)
        refine ⟨232, #[.val (.ref a1), .val (.int p2), .val (.int p3), .val (.int xx), .val (.int (2 : Int32)), .val (.int lo), .val (.int hi), .val (.int (2 : Int32)), .val (.int (c1 &&& (255 : Int32)))], hb hby d2_232, fun t k => pre9 t ?_⟩
        rw [eT] at k
        exact k
  · have i_hc163_2 : ¬ ((p2 + (1 : Int32)).toInt < p3.toInt) := fun q => hc163_2 ((Int32.lt_iff_toInt_lt).mpr q)
    have pre10 : ∀ t, Steps p.tables e below (T0.setTop (mkF m 168 #[.val (.ref a1), .val (.int p2), .val (.int p3), .val (.int xx), .val (.int (2 : Int32)), .val (.int lo), .val (.int hi), .val (.int (1 : Int32)), .unset] [(.int (-2147483648 : Int32))])) t → Steps p.tables e below (T0.setTop (mkF m 151 #[.val (.ref a1), .val (.int p2), .val (.int p3), .val (.int xx), .val (.int (2 : Int32)), .val (.int lo), .val (.int hi), .val (.int (1 : Int32)), .unset] [])) t := by
      intro t k
      refine pre1 t ?_
      show Steps p.tables e below (T0.setTop (mkF m 163 #[.val (.ref a1), .val (.int p2), .val (.int p3), .val (.int xx), .val (.int (2 : Int32)), .val (.int lo), .val (.int hi), .val (.int (1 : Int32)), .unset] [(.int p3), (.int (p2 + (1 : Int32)))])) _
      refine XS.icmpNo X0.here hx rfl (hb hby d2_163) rfl (flt hc163_2).1 ?_
      show Steps p.tables e below (T0.setTop (mkF m 166 #[.val (.ref a1), .val (.int p2), .val (.int p3), .val (.int xx), .val (.int (2 : Int32)), .val (.int lo), .val (.int hi), .val (.int (1 : Int32)), .unset] [])) _
      refine X0.ldcInt hx hown (mvT hZ (hw _ (List.mem_of_getElem? (i := 10) rfl))) (g := (mkF m 166 #[.val (.ref a1), .val (.int p2), .val (.int p3), .val (.int xx), .val (.int (2 : Int32)), .val (.int lo), .val (.int hi), .val (.int (1 : Int32)), .unset] [])) rfl (hb hby d2_166) _ ?_
      exact k
    have eT : own_T 2 (c1 &&& (255 : Int32)).toInt (c2 &&& (255 : Int32)).toInt (c3 &&& (255 : Int32)).toInt (p3.toInt - p2.toInt - 1) lo.toInt hi.toInt = (-2147483648 : Int32) := (lf2_3 ((c0 &&& (255 : Int32)).toInt) ((c1 &&& (255 : Int32)).toInt) ((c2 &&& (255 : Int32)).toInt) ((c3 &&& (255 : Int32)).toInt) ((p2 + (1 : Int32)).toInt) ((p2 + (2 : Int32)).toInt) ((p2 + (3 : Int32)).toInt) (p2.toInt) (p3.toInt) (lo.toInt) (hi.toInt) ho1 ho2 ho3 i_hc163_2)
    refine ⟨168, #[.val (.ref a1), .val (.int p2), .val (.int p3), .val (.int xx), .val (.int (2 : Int32)), .val (.int lo), .val (.int hi), .val (.int (1 : Int32)), .unset], hb hby d2_168, fun t k => pre10 t ?_⟩
    rw [eT] at k
    exact k
theorem lf2_4 (x0 x1 x2 x3 o1 o2 o3 oo lm lo hi : Int) (h0 : o1 = oo + 1) (h1 : o2 = oo + 2) (h2 : o3 = oo + 3) (h3 : o1 < lm) (h4 : x1 < lo) : own_T 3 x1 x2 x3 (lm - oo - 1) lo hi = (-2 : Int32) := own_T1 (by omega) (by omega)
theorem lf2_5 (x0 x1 x2 x3 o1 o2 o3 oo lm lo hi : Int) (h0 : o1 = oo + 1) (h1 : o2 = oo + 2) (h2 : o3 = oo + 3) (h3 : o1 < lm) (h4 : ¬ (x1 < lo)) (h5 : hi < x1) : own_T 3 x1 x2 x3 (lm - oo - 1) lo hi = (-2 : Int32) := own_T1 (by omega) (by omega)
theorem lf2_6 (x0 x1 x2 x3 o1 o2 o3 oo lm lo hi : Int) (h0 : o1 = oo + 1) (h1 : o2 = oo + 2) (h2 : o3 = oo + 3) (h3 : o1 < lm) (h4 : ¬ (x1 < lo)) (h5 : ¬ (hi < x1)) (h6 : o2 < lm) (h7 : x2 < 128) : own_T 3 x1 x2 x3 (lm - oo - 1) lo hi = (-3 : Int32) := own_T4 (by omega) (by omega) (by omega) (by omega) (by omega)
theorem lf2_7 (x0 x1 x2 x3 o1 o2 o3 oo lm lo hi : Int) (h0 : o1 = oo + 1) (h1 : o2 = oo + 2) (h2 : o3 = oo + 3) (h3 : o1 < lm) (h4 : ¬ (x1 < lo)) (h5 : ¬ (hi < x1)) (h6 : o2 < lm) (h7 : ¬ (x2 < 128)) (h8 : 191 < x2) : own_T 3 x1 x2 x3 (lm - oo - 1) lo hi = (-3 : Int32) := own_T4 (by omega) (by omega) (by omega) (by omega) (by omega)
theorem lf2_8 (x0 x1 x2 x3 o1 o2 o3 oo lm lo hi : Int) (h0 : o1 = oo + 1) (h1 : o2 = oo + 2) (h2 : o3 = oo + 3) (h3 : o1 < lm) (h4 : ¬ (x1 < lo)) (h5 : ¬ (hi < x1)) (h6 : o2 < lm) (h7 : ¬ (x2 < 128)) (h8 : ¬ (191 < x2)) : own_T 3 x1 x2 x3 (lm - oo - 1) lo hi = (3 : Int32) := own_T5 (by omega) (by omega) (by omega) (by omega) (by omega) (by omega)
theorem lf2_9 (x0 x1 x2 x3 o1 o2 o3 oo lm lo hi : Int) (h0 : o1 = oo + 1) (h1 : o2 = oo + 2) (h2 : o3 = oo + 3) (h3 : o1 < lm) (h4 : ¬ (x1 < lo)) (h5 : ¬ (hi < x1)) (h6 : ¬ (o2 < lm)) : own_T 3 x1 x2 x3 (lm - oo - 1) lo hi = (-2147483648 : Int32) := own_T3 (by omega) (by omega) (by omega) (by omega)
theorem lf2_10 (x0 x1 x2 x3 o1 o2 o3 oo lm lo hi : Int) (h0 : o1 = oo + 1) (h1 : o2 = oo + 2) (h2 : o3 = oo + 3) (h3 : ¬ (o1 < lm)) : own_T 3 x1 x2 x3 (lm - oo - 1) lo hi = (-2147483648 : Int32) := own_T0 (by omega)
set_option maxRecDepth 65536 in
set_option maxHeartbeats 40000000 in
theorem segT3 {p : Program} {l : Launch} {e : Env} {s : State} {m : MethodId} {args : Array Value} {below : List Frame} {meth : Method} {c : Code} {T0 : State} {locs : List Loc} {Z : State} {a0 : Array Value} {h0 : Heap} {n0 : Nat} {R : Room} (a1 : Addr) (p2 p3 xx lo hi : Int32) (cl : Cell) (c0 c1 c2 c3 : Int32) (X0 : Stand p l e R s m args below meth c T0 locs 0 0) (hx : p.tables.exec = Jvm.exec) (hZ : Z.Warmed39 s.vm) (hw : ∀ d ∈ tables_1, d.before a0 Z = true) (hby : c.code = prog_168_method_19_code) (hml : c.maxLocals = 9) (hown : s.vm.findClass "com/example/kindgen/kindgen/runtime/Utf8Cursor" = some m.cls) (e0 : T0.heap = h0) (Z0 : n0 ≤ h0.size) (N0 : Fr n0 locs) (Ar : Arr Z h0 a1 cl .byte) (hin0 : ¬ (p2 < 0 ∨ cl.slots.size ≤ (p2).toNatClampNeg)) (hat0 : cl.slots[(p2).toNatClampNeg]? = some (.int c0)) (hin1 : ¬ ((p2 + (1 : Int32)) < 0 ∨ cl.slots.size ≤ ((p2 + (1 : Int32))).toNatClampNeg)) (hat1 : cl.slots[((p2 + (1 : Int32))).toNatClampNeg]? = some (.int c1)) (hin2 : ¬ ((p2 + (2 : Int32)) < 0 ∨ cl.slots.size ≤ ((p2 + (2 : Int32))).toNatClampNeg)) (hat2 : cl.slots[((p2 + (2 : Int32))).toNatClampNeg]? = some (.int c2)) (hin3 : ¬ ((p2 + (3 : Int32)) < 0 ∨ cl.slots.size ≤ ((p2 + (3 : Int32))).toNatClampNeg)) (hat3 : cl.slots[((p2 + (3 : Int32))).toNatClampNeg]? = some (.int c3)) (ho1 : ((p2 + (1 : Int32))).toInt = p2.toInt + 1) (ho2 : ((p2 + (2 : Int32))).toInt = p2.toInt + 2) (ho3 : ((p2 + (3 : Int32))).toInt = p2.toInt + 3) :
    ∃ (pc : Nat) (Ls : Array Slot), decode c.code pc = .ok (.ireturn, 1) ∧ ∀ t, Steps p.tables e below (T0.setTop (mkF m pc Ls [.int (own_T 3 (c1 &&& (255 : Int32)).toInt (c2 &&& (255 : Int32)).toInt (c3 &&& (255 : Int32)).toInt (p3.toInt - p2.toInt - 1) lo.toInt hi.toInt)])) t → Steps p.tables e below (T0.setTop (mkF m 151 #[.val (.ref a1), .val (.int p2), .val (.int p3), .val (.int xx), .val (.int (3 : Int32)), .val (.int lo), .val (.int hi), .val (.int (1 : Int32)), .unset] [])) t := by
  have pre0 : ∀ t, Steps p.tables e below (T0.setTop (mkF m 151 #[.val (.ref a1), .val (.int p2), .val (.int p3), .val (.int xx), .val (.int (3 : Int32)), .val (.int lo), .val (.int hi), .val (.int (1 : Int32)), .unset] [])) t → Steps p.tables e below (T0.setTop (mkF m 151 #[.val (.ref a1), .val (.int p2), .val (.int p3), .val (.int xx), .val (.int (3 : Int32)), .val (.int lo), .val (.int hi), .val (.int (1 : Int32)), .unset] [])) t := fun t k => k
  have pre1 : ∀ t, Steps p.tables e below (T0.setTop (mkF m 163 #[.val (.ref a1), .val (.int p2), .val (.int p3), .val (.int xx), .val (.int (3 : Int32)), .val (.int lo), .val (.int hi), .val (.int (1 : Int32)), .unset] [(.int p3), (.int (p2 + (1 : Int32)))])) t → Steps p.tables e below (T0.setTop (mkF m 151 #[.val (.ref a1), .val (.int p2), .val (.int p3), .val (.int xx), .val (.int (3 : Int32)), .val (.int lo), .val (.int hi), .val (.int (1 : Int32)), .unset] [])) t := by
    intro t k
    refine pre0 t ?_
    show Steps p.tables e below (T0.setTop (mkF m 151 #[.val (.ref a1), .val (.int p2), .val (.int p3), .val (.int xx), .val (.int (3 : Int32)), .val (.int lo), .val (.int hi), .val (.int (1 : Int32)), .unset] [])) _
    refine XS.iload X0.here hx rfl (hb hby d2_151) rfl ?_
    refine XS.iload X0.here hx rfl (hb hby d2_153) rfl ?_
    show Steps p.tables e below (T0.setTop (mkF m 155 #[.val (.ref a1), .val (.int p2), .val (.int p3), .val (.int xx), .val (.int (3 : Int32)), .val (.int lo), .val (.int hi), .val (.int (1 : Int32)), .unset] [(.int (3 : Int32)), (.int (1 : Int32))])) _
    refine XS.icmpNo X0.here hx rfl (hb hby d2_155) rfl (tlt (by decide : (1 : Int32) < (3 : Int32))).2.1 ?_
    refine XS.iloadN X0.here hx rfl (hb hby d2_158) rfl ?_
    refine XS.iload X0.here hx rfl (hb hby d2_159) rfl ?_
    refine XS.iadd X0.here hx rfl (hb hby d2_161) rfl ?_
    show Steps p.tables e below (T0.setTop (mkF m 162 #[.val (.ref a1), .val (.int p2), .val (.int p3), .val (.int xx), .val (.int (3 : Int32)), .val (.int lo), .val (.int hi), .val (.int (1 : Int32)), .unset] [(.int (p2 + (1 : Int32)))])) _
    refine XS.iloadN X0.here hx rfl (hb hby d2_162) rfl ?_
    exact k
  by_cases hc163_2 : (p2 + (1 : Int32)) < p3
  · have i_hc163_2 : (p2 + (1 : Int32)).toInt < p3.toInt := (Int32.lt_iff_toInt_lt).mp hc163_2
    have pre3 : ∀ t, Steps p.tables e below (T0.setTop (mkF m 197 #[.val (.ref a1), .val (.int p2), .val (.int p3), .val (.int xx), .val (.int (3 : Int32)), .val (.int lo), .val (.int hi), .val (.int (1 : Int32)), .val (.int (c1 &&& (255 : Int32)))] [(.int lo), (.int (c1 &&& (255 : Int32)))])) t → Steps p.tables e below (T0.setTop (mkF m 151 #[.val (.ref a1), .val (.int p2), .val (.int p3), .val (.int xx), .val (.int (3 : Int32)), .val (.int lo), .val (.int hi), .val (.int (1 : Int32)), .unset] [])) t := by
      intro t k
      refine pre1 t ?_
      show Steps p.tables e below (T0.setTop (mkF m 163 #[.val (.ref a1), .val (.int p2), .val (.int p3), .val (.int xx), .val (.int (3 : Int32)), .val (.int lo), .val (.int hi), .val (.int (1 : Int32)), .unset] [(.int p3), (.int (p2 + (1 : Int32)))])) _
      refine XS.icmpYes X0.here hx rfl (pc0 := 163) (pc' := 169) rfl (hb hby d2_163) rfl (tlt hc163_2).1 (by decide) (by decide) ?_
      refine XS.aloadN X0.here hx rfl (hb hby d2_169) rfl rfl ?_
      refine XS.iloadN X0.here hx rfl (hb hby d2_170) rfl ?_
      refine XS.iload X0.here hx rfl (hb hby d2_171) rfl ?_
      show Steps p.tables e below (T0.setTop (mkF m 173 #[.val (.ref a1), .val (.int p2), .val (.int p3), .val (.int xx), .val (.int (3 : Int32)), .val (.int lo), .val (.int hi), .val (.int (1 : Int32)), .unset] [(.int (1 : Int32)), (.int p2), (.ref a1)])) _
      refine XS.iadd X0.here hx rfl (hb hby d2_173) rfl ?_
      show Steps p.tables e below (T0.setTop (mkF m 174 #[.val (.ref a1), .val (.int p2), .val (.int p3), .val (.int xx), .val (.int (3 : Int32)), .val (.int lo), .val (.int hi), .val (.int (1 : Int32)), .unset] [(.int (p2 + (1 : Int32))), (.ref a1)])) _
      refine X0.baloadBytes hx (j := (p2 + (1 : Int32))) (v := (.int c1)) (by rw [e0]; exact Ar.1) (State.isArrayOf_alike hZ.alike Ar.2.1) Ar.2.2 hin1 hat1 (g := (mkF m 174 #[.val (.ref a1), .val (.int p2), .val (.int p3), .val (.int xx), .val (.int (3 : Int32)), .val (.int lo), .val (.int hi), .val (.int (1 : Int32)), .unset] [(.int (p2 + (1 : Int32))), (.ref a1)])) rfl rfl (hb hby d2_174) _ ?_
      refine XS.sipush X0.here hx rfl (hb hby d2_175) ?_
      refine XS.iand X0.here hx rfl (hb hby d2_178) rfl ?_
      refine XS.istore X0.here hx rfl (hb hby d2_179) rfl (l' := #[.val (.ref a1), .val (.int p2), .val (.int p3), .val (.int xx), .val (.int (3 : Int32)), .val (.int lo), .val (.int hi), .val (.int (1 : Int32)), .val (.int (c1 &&& (255 : Int32)))]) rfl ?_
      show Steps p.tables e below (T0.setTop (mkF m 181 #[.val (.ref a1), .val (.int p2), .val (.int p3), .val (.int xx), .val (.int (3 : Int32)), .val (.int lo), .val (.int hi), .val (.int (1 : Int32)), .val (.int (c1 &&& (255 : Int32)))] [])) _
      refine XS.iload X0.here hx rfl (hb hby d2_181) rfl ?_
      refine XS.iload X0.here hx rfl (hb hby d2_183) rfl ?_
      refine XS.iconst X0.here hx rfl (hb hby d2_185) ?_
      show Steps p.tables e below (T0.setTop (mkF m 186 #[.val (.ref a1), .val (.int p2), .val (.int p3), .val (.int xx), .val (.int (3 : Int32)), .val (.int lo), .val (.int hi), .val (.int (1 : Int32)), .val (.int (c1 &&& (255 : Int32)))] [(.int (1 : Int32)), (.int (1 : Int32)), (.int (c1 &&& (255 : Int32)))])) _
      refine XS.icmpNo X0.here hx rfl (hb hby d2_186) rfl (teq (by decide : (1 : Int32) = (1 : Int32))).2 ?_
      refine XS.iload X0.here hx rfl (hb hby d2_189) rfl ?_
      refine XS.goto X0.here hx rfl (pc0 := 191) (pc' := 197) rfl (hb hby d2_191) (by decide) (by decide) ?_
      exact k
    by_cases hc197_4 : (c1 &&& (255 : Int32)) < lo
    · have i_hc197_4 : (c1 &&& (255 : Int32)).toInt < lo.toInt := (Int32.lt_iff_toInt_lt).mp hc197_4
      have pre5 : ∀ t, Steps p.tables e below (T0.setTop (mkF m 223 #[.val (.ref a1), .val (.int p2), .val (.int p3), .val (.int xx), .val (.int (3 : Int32)), .val (.int lo), .val (.int hi), .val (.int (1 : Int32)), .val (.int (c1 &&& (255 : Int32)))] [(.int (-2 : Int32))])) t → Steps p.tables e below (T0.setTop (mkF m 151 #[.val (.ref a1), .val (.int p2), .val (.int p3), .val (.int xx), .val (.int (3 : Int32)), .val (.int lo), .val (.int hi), .val (.int (1 : Int32)), .unset] [])) t := by
        intro t k
        refine pre3 t ?_
        show Steps p.tables e below (T0.setTop (mkF m 197 #[.val (.ref a1), .val (.int p2), .val (.int p3), .val (.int xx), .val (.int (3 : Int32)), .val (.int lo), .val (.int hi), .val (.int (1 : Int32)), .val (.int (c1 &&& (255 : Int32)))] [(.int lo), (.int (c1 &&& (255 : Int32)))])) _
        refine XS.icmpYes X0.here hx rfl (pc0 := 197) (pc' := 219) rfl (hb hby d2_197) rfl (tlt hc197_4).1 (by decide) (by decide) ?_
        refine XS.iconst X0.here hx rfl (hb hby d2_219) ?_
        refine XS.iload X0.here hx rfl (hb hby d2_220) rfl ?_
        show Steps p.tables e below (T0.setTop (mkF m 222 #[.val (.ref a1), .val (.int p2), .val (.int p3), .val (.int xx), .val (.int (3 : Int32)), .val (.int lo), .val (.int hi), .val (.int (1 : Int32)), .val (.int (c1 &&& (255 : Int32)))] [(.int (1 : Int32)), (.int (-1 : Int32))])) _
        refine XS.isub X0.here hx rfl (hb hby d2_222) rfl ?_
        exact k
      have eT : own_T 3 (c1 &&& (255 : Int32)).toInt (c2 &&& (255 : Int32)).toInt (c3 &&& (255 : Int32)).toInt (p3.toInt - p2.toInt - 1) lo.toInt hi.toInt = (-2 : Int32) := (lf2_4 ((c0 &&& (255 : Int32)).toInt) ((c1 &&& (255 : Int32)).toInt) ((c2 &&& (255 : Int32)).toInt) ((c3 &&& (255 : Int32)).toInt) ((p2 + (1 : Int32)).toInt) ((p2 + (2 : Int32)).toInt) ((p2 + (3 : Int32)).toInt) (p2.toInt) (p3.toInt) (lo.toInt) (hi.toInt) ho1 ho2 ho3 i_hc163_2 i_hc197_4)
      refine ⟨223, #[.val (.ref a1), .val (.int p2), .val (.int p3), .val (.int xx), .val (.int (3 : Int32)), .val (.int lo), .val (.int hi), .val (.int (1 : Int32)), .val (.int (c1 &&& (255 : Int32)))], hb hby d2_223, fun t k => pre5 t ?_⟩
      rw [eT] at k
      exact k
    · have i_hc197_4 : ¬ ((c1 &&& (255 : Int32)).toInt < lo.toInt) := fun q => hc197_4 ((Int32.lt_iff_toInt_lt).mpr q)
      have pre6 : ∀ t, Steps p.tables e below (T0.setTop (mkF m 216 #[.val (.ref a1), .val (.int p2), .val (.int p3), .val (.int xx), .val (.int (3 : Int32)), .val (.int lo), .val (.int hi), .val (.int (1 : Int32)), .val (.int (c1 &&& (255 : Int32)))] [(.int hi), (.int (c1 &&& (255 : Int32)))])) t → Steps p.tables e below (T0.setTop (mkF m 151 #[.val (.ref a1), .val (.int p2), .val (.int p3), .val (.int xx), .val (.int (3 : Int32)), .val (.int lo), .val (.int hi), .val (.int (1 : Int32)), .unset] [])) t := by
        intro t k
        refine pre3 t ?_
        show Steps p.tables e below (T0.setTop (mkF m 197 #[.val (.ref a1), .val (.int p2), .val (.int p3), .val (.int xx), .val (.int (3 : Int32)), .val (.int lo), .val (.int hi), .val (.int (1 : Int32)), .val (.int (c1 &&& (255 : Int32)))] [(.int lo), (.int (c1 &&& (255 : Int32)))])) _
        refine XS.icmpNo X0.here hx rfl (hb hby d2_197) rfl (flt hc197_4).1 ?_
        refine XS.iload X0.here hx rfl (hb hby d2_200) rfl ?_
        refine XS.iload X0.here hx rfl (hb hby d2_202) rfl ?_
        refine XS.iconst X0.here hx rfl (hb hby d2_204) ?_
        show Steps p.tables e below (T0.setTop (mkF m 205 #[.val (.ref a1), .val (.int p2), .val (.int p3), .val (.int xx), .val (.int (3 : Int32)), .val (.int lo), .val (.int hi), .val (.int (1 : Int32)), .val (.int (c1 &&& (255 : Int32)))] [(.int (1 : Int32)), (.int (1 : Int32)), (.int (c1 &&& (255 : Int32)))])) _
        refine XS.icmpNo X0.here hx rfl (hb hby d2_205) rfl (teq (by decide : (1 : Int32) = (1 : Int32))).2 ?_
        refine XS.iload X0.here hx rfl (hb hby d2_208) rfl ?_
        refine XS.goto X0.here hx rfl (pc0 := 210) (pc' := 216) rfl (hb hby d2_210) (by decide) (by decide) ?_
        exact k
      by_cases hc216_7 : hi < (c1 &&& (255 : Int32))
      · have i_hc216_7 : hi.toInt < (c1 &&& (255 : Int32)).toInt := (Int32.lt_iff_toInt_lt).mp hc216_7
        have pre8 : ∀ t, Steps p.tables e below (T0.setTop (mkF m 223 #[.val (.ref a1), .val (.int p2), .val (.int p3), .val (.int xx), .val (.int (3 : Int32)), .val (.int lo), .val (.int hi), .val (.int (1 : Int32)), .val (.int (c1 &&& (255 : Int32)))] [(.int (-2 : Int32))])) t → Steps p.tables e below (T0.setTop (mkF m 151 #[.val (.ref a1), .val (.int p2), .val (.int p3), .val (.int xx), .val (.int (3 : Int32)), .val (.int lo), .val (.int hi), .val (.int (1 : Int32)), .unset] [])) t := by
          intro t k
          refine pre6 t ?_
          show Steps p.tables e below (T0.setTop (mkF m 216 #[.val (.ref a1), .val (.int p2), .val (.int p3), .val (.int xx), .val (.int (3 : Int32)), .val (.int lo), .val (.int hi), .val (.int (1 : Int32)), .val (.int (c1 &&& (255 : Int32)))] [(.int hi), (.int (c1 &&& (255 : Int32)))])) _
          refine XS.icmpNo X0.here hx rfl (hb hby d2_216) rfl (tlt hc216_7).2.2.2 ?_
          refine XS.iconst X0.here hx rfl (hb hby d2_219) ?_
          refine XS.iload X0.here hx rfl (hb hby d2_220) rfl ?_
          show Steps p.tables e below (T0.setTop (mkF m 222 #[.val (.ref a1), .val (.int p2), .val (.int p3), .val (.int xx), .val (.int (3 : Int32)), .val (.int lo), .val (.int hi), .val (.int (1 : Int32)), .val (.int (c1 &&& (255 : Int32)))] [(.int (1 : Int32)), (.int (-1 : Int32))])) _
          refine XS.isub X0.here hx rfl (hb hby d2_222) rfl ?_
          exact k
        have eT : own_T 3 (c1 &&& (255 : Int32)).toInt (c2 &&& (255 : Int32)).toInt (c3 &&& (255 : Int32)).toInt (p3.toInt - p2.toInt - 1) lo.toInt hi.toInt = (-2 : Int32) := (lf2_5 ((c0 &&& (255 : Int32)).toInt) ((c1 &&& (255 : Int32)).toInt) ((c2 &&& (255 : Int32)).toInt) ((c3 &&& (255 : Int32)).toInt) ((p2 + (1 : Int32)).toInt) ((p2 + (2 : Int32)).toInt) ((p2 + (3 : Int32)).toInt) (p2.toInt) (p3.toInt) (lo.toInt) (hi.toInt) ho1 ho2 ho3 i_hc163_2 i_hc197_4 i_hc216_7)
        refine ⟨223, #[.val (.ref a1), .val (.int p2), .val (.int p3), .val (.int xx), .val (.int (3 : Int32)), .val (.int lo), .val (.int hi), .val (.int (1 : Int32)), .val (.int (c1 &&& (255 : Int32)))], hb hby d2_223, fun t k => pre8 t ?_⟩
        rw [eT] at k
        exact k
      · have i_hc216_7 : ¬ (hi.toInt < (c1 &&& (255 : Int32)).toInt) := fun q => hc216_7 ((Int32.lt_iff_toInt_lt).mpr q)
        have pre9 : ∀ t, Steps p.tables e below (T0.setTop (mkF m 163 #[.val (.ref a1), .val (.int p2), .val (.int p3), .val (.int xx), .val (.int (3 : Int32)), .val (.int lo), .val (.int hi), .val (.int (2 : Int32)), .val (.int (c1 &&& (255 : Int32)))] [(.int p3), (.int (p2 + (2 : Int32)))])) t → Steps p.tables e below (T0.setTop (mkF m 151 #[.val (.ref a1), .val (.int p2), .val (.int p3), .val (.int xx), .val (.int (3 : Int32)), .val (.int lo), .val (.int hi), .val (.int (1 : Int32)), .unset] [])) t := by
          intro t k
          refine pre6 t ?_
          show Steps p.tables e below (T0.setTop (mkF m 216 #[.val (.ref a1), .val (.int p2), .val (.int p3), .val (.int xx), .val (.int (3 : Int32)), .val (.int lo), .val (.int hi), .val (.int (1 : Int32)), .val (.int (c1 &&& (255 : Int32)))] [(.int hi), (.int (c1 &&& (255 : Int32)))])) _
          refine XS.icmpYes X0.here hx rfl (pc0 := 216) (pc' := 224) rfl (hb hby d2_216) rfl (flt hc216_7).2.2.2 (by decide) (by decide) ?_
          show Steps p.tables e below (T0.setTop (mkF m 224 #[.val (.ref a1), .val (.int p2), .val (.int p3), .val (.int xx), .val (.int (3 : Int32)), .val (.int lo), .val (.int hi), .val (.int (1 : Int32)), .val (.int (c1 &&& (255 : Int32)))] [])) _
          refine XS.iinc X0.here hx rfl (hb hby d2_224) rfl (l' := #[.val (.ref a1), .val (.int p2), .val (.int p3), .val (.int xx), .val (.int (3 : Int32)), .val (.int lo), .val (.int hi), .val (.int (2 : Int32)), .val (.int (c1 &&& (255 : Int32)))]) rfl ?_
          refine XS.goto X0.here hx rfl (pc0 := 227) (pc' := 151) rfl (hb hby d2_227) (by decide) (by decide) ?_
          refine XS.iload X0.here hx rfl (hb hby d2_151) rfl ?_
          refine XS.iload X0.here hx rfl (hb hby d2_153) rfl ?_
          show Steps p.tables e below (T0.setTop (mkF m 155 #[.val (.ref a1), .val (.int p2), .val (.int p3), .val (.int xx), .val (.int (3 : Int32)), .val (.int lo), .val (.int hi), .val (.int (2 : Int32)), .val (.int (c1 &&& (255 : Int32)))] [(.int (3 : Int32)), (.int (2 : Int32))])) _
          refine XS.icmpNo X0.here hx rfl (hb hby d2_155) rfl (tlt (by decide : (2 : Int32) < (3 : Int32))).2.1 ?_
          refine XS.iloadN X0.here hx rfl (hb hby d2_158) rfl ?_
          refine XS.iload X0.here hx rfl (hb hby d2_159) rfl ?_
          refine XS.iadd X0.here hx rfl (hb hby d2_161) rfl ?_
          show Steps p.tables e below (T0.setTop (mkF m 162 #[.val (.ref a1), .val (.int p2), .val (.int p3), .val (.int xx), .val (.int (3 : Int32)), .val (.int lo), .val (.int hi), .val (.int (2 : Int32)), .val (.int (c1 &&& (255 : Int32)))] [(.int (p2 + (2 : Int32)))])) _
          refine XS.iloadN X0.here hx rfl (hb hby d2_162) rfl ?_
          exact k
        by_cases hc163_10 : (p2 + (2 : Int32)) < p3
        · have i_hc163_10 : (p2 + (2 : Int32)).toInt < p3.toInt := (Int32.lt_iff_toInt_lt).mp hc163_10
          have pre11 : ∀ t, Steps p.tables e below (T0.setTop (mkF m 197 #[.val (.ref a1), .val (.int p2), .val (.int p3), .val (.int xx), .val (.int (3 : Int32)), .val (.int lo), .val (.int hi), .val (.int (2 : Int32)), .val (.int (c2 &&& (255 : Int32)))] [(.int (128 : Int32)), (.int (c2 &&& (255 : Int32)))])) t → Steps p.tables e below (T0.setTop (mkF m 151 #[.val (.ref a1), .val (.int p2), .val (.int p3), .val (.int xx), .val (.int (3 : Int32)), .val (.int lo), .val (.int hi), .val (.int (1 : Int32)), .unset] [])) t := by
            intro t k
            refine pre9 t ?_
            show Steps p.tables e below (T0.setTop (mkF m 163 #[.val (.ref a1), .val (.int p2), .val (.int p3), .val (.int xx), .val (.int (3 : Int32)), .val (.int lo), .val (.int hi), .val (.int (2 : Int32)), .val (.int (c1 &&& (255 : Int32)))] [(.int p3), (.int (p2 + (2 : Int32)))])) _
            refine XS.icmpYes X0.here hx rfl (pc0 := 163) (pc' := 169) rfl (hb hby d2_163) rfl (tlt hc163_10).1 (by decide) (by decide) ?_
            refine XS.aloadN X0.here hx rfl (hb hby d2_169) rfl rfl ?_
            refine XS.iloadN X0.here hx rfl (hb hby d2_170) rfl ?_
            refine XS.iload X0.here hx rfl (hb hby d2_171) rfl ?_
            show Steps p.tables e below (T0.setTop (mkF m 173 #[.val (.ref a1), .val (.int p2), .val (.int p3), .val (.int xx), .val (.int (3 : Int32)), .val (.int lo), .val (.int hi), .val (.int (2 : Int32)), .val (.int (c1 &&& (255 : Int32)))] [(.int (2 : Int32)), (.int p2), (.ref a1)])) _
            refine XS.iadd X0.here hx rfl (hb hby d2_173) rfl ?_
            show Steps p.tables e below (T0.setTop (mkF m 174 #[.val (.ref a1), .val (.int p2), .val (.int p3), .val (.int xx), .val (.int (3 : Int32)), .val (.int lo), .val (.int hi), .val (.int (2 : Int32)), .val (.int (c1 &&& (255 : Int32)))] [(.int (p2 + (2 : Int32))), (.ref a1)])) _
            refine X0.baloadBytes hx (j := (p2 + (2 : Int32))) (v := (.int c2)) (by rw [e0]; exact Ar.1) (State.isArrayOf_alike hZ.alike Ar.2.1) Ar.2.2 hin2 hat2 (g := (mkF m 174 #[.val (.ref a1), .val (.int p2), .val (.int p3), .val (.int xx), .val (.int (3 : Int32)), .val (.int lo), .val (.int hi), .val (.int (2 : Int32)), .val (.int (c1 &&& (255 : Int32)))] [(.int (p2 + (2 : Int32))), (.ref a1)])) rfl rfl (hb hby d2_174) _ ?_
            refine XS.sipush X0.here hx rfl (hb hby d2_175) ?_
            refine XS.iand X0.here hx rfl (hb hby d2_178) rfl ?_
            refine XS.istore X0.here hx rfl (hb hby d2_179) rfl (l' := #[.val (.ref a1), .val (.int p2), .val (.int p3), .val (.int xx), .val (.int (3 : Int32)), .val (.int lo), .val (.int hi), .val (.int (2 : Int32)), .val (.int (c2 &&& (255 : Int32)))]) rfl ?_
            show Steps p.tables e below (T0.setTop (mkF m 181 #[.val (.ref a1), .val (.int p2), .val (.int p3), .val (.int xx), .val (.int (3 : Int32)), .val (.int lo), .val (.int hi), .val (.int (2 : Int32)), .val (.int (c2 &&& (255 : Int32)))] [])) _
            refine XS.iload X0.here hx rfl (hb hby d2_181) rfl ?_
            refine XS.iload X0.here hx rfl (hb hby d2_183) rfl ?_
            refine XS.iconst X0.here hx rfl (hb hby d2_185) ?_
            show Steps p.tables e below (T0.setTop (mkF m 186 #[.val (.ref a1), .val (.int p2), .val (.int p3), .val (.int xx), .val (.int (3 : Int32)), .val (.int lo), .val (.int hi), .val (.int (2 : Int32)), .val (.int (c2 &&& (255 : Int32)))] [(.int (1 : Int32)), (.int (2 : Int32)), (.int (c2 &&& (255 : Int32)))])) _
            refine XS.icmpYes X0.here hx rfl (pc0 := 186) (pc' := 194) rfl (hb hby d2_186) rfl (feq (by decide : ¬ ((2 : Int32) = (1 : Int32)))).2 (by decide) (by decide) ?_
            refine XS.sipush X0.here hx rfl (hb hby d2_194) ?_
            exact k
          by_cases hc197_12 : (c2 &&& (255 : Int32)) < (128 : Int32)
          · have i_hc197_12 : (c2 &&& (255 : Int32)).toInt < (128 : Int32).toInt := (Int32.lt_iff_toInt_lt).mp hc197_12
            have pre13 : ∀ t, Steps p.tables e below (T0.setTop (mkF m 223 #[.val (.ref a1), .val (.int p2), .val (.int p3), .val (.int xx), .val (.int (3 : Int32)), .val (.int lo), .val (.int hi), .val (.int (2 : Int32)), .val (.int (c2 &&& (255 : Int32)))] [(.int (-3 : Int32))])) t → Steps p.tables e below (T0.setTop (mkF m 151 #[.val (.ref a1), .val (.int p2), .val (.int p3), .val (.int xx), .val (.int (3 : Int32)), .val (.int lo), .val (.int hi), .val (.int (1 : Int32)), .unset] [])) t := by
              intro t k
              refine pre11 t ?_
              show Steps p.tables e below (T0.setTop (mkF m 197 #[.val (.ref a1), .val (.int p2), .val (.int p3), .val (.int xx), .val (.int (3 : Int32)), .val (.int lo), .val (.int hi), .val (.int (2 : Int32)), .val (.int (c2 &&& (255 : Int32)))] [(.int (128 : Int32)), (.int (c2 &&& (255 : Int32)))])) _
              refine XS.icmpYes X0.here hx rfl (pc0 := 197) (pc' := 219) rfl (hb hby d2_197) rfl (tlt hc197_12).1 (by decide) (by decide) ?_
              refine XS.iconst X0.here hx rfl (hb hby d2_219) ?_
              refine XS.iload X0.here hx rfl (hb hby d2_220) rfl ?_
              show Steps p.tables e below (T0.setTop (mkF m 222 #[.val (.ref a1), .val (.int p2), .val (.int p3), .val (.int xx), .val (.int (3 : Int32)), .val (.int lo), .val (.int hi), .val (.int (2 : Int32)), .val (.int (c2 &&& (255 : Int32)))] [(.int (2 : Int32)), (.int (-1 : Int32))])) _
              refine XS.isub X0.here hx rfl (hb hby d2_222) rfl ?_
              exact k
            have eT : own_T 3 (c1 &&& (255 : Int32)).toInt (c2 &&& (255 : Int32)).toInt (c3 &&& (255 : Int32)).toInt (p3.toInt - p2.toInt - 1) lo.toInt hi.toInt = (-3 : Int32) := (lf2_6 ((c0 &&& (255 : Int32)).toInt) ((c1 &&& (255 : Int32)).toInt) ((c2 &&& (255 : Int32)).toInt) ((c3 &&& (255 : Int32)).toInt) ((p2 + (1 : Int32)).toInt) ((p2 + (2 : Int32)).toInt) ((p2 + (3 : Int32)).toInt) (p2.toInt) (p3.toInt) (lo.toInt) (hi.toInt) ho1 ho2 ho3 i_hc163_2 i_hc197_4 i_hc216_7 i_hc163_10 i_hc197_12)
            refine ⟨223, #[.val (.ref a1), .val (.int p2), .val (.int p3), .val (.int xx), .val (.int (3 : Int32)), .val (.int lo), .val (.int hi), .val (.int (2 : Int32)), .val (.int (c2 &&& (255 : Int32)))], hb hby d2_223, fun t k => pre13 t ?_⟩
            rw [eT] at k
            exact k
          · have i_hc197_12 : ¬ ((c2 &&& (255 : Int32)).toInt < (128 : Int32).toInt) := fun q => hc197_12 ((Int32.lt_iff_toInt_lt).mpr q)
            have pre14 : ∀ t, Steps p.tables e below (T0.setTop (mkF m 216 #[.val (.ref a1), .val (.int p2), .val (.int p3), .val (.int xx), .val (.int (3 : Int32)), .val (.int lo), .val (.int hi), .val (.int (2 : Int32)), .val (.int (c2 &&& (255 : Int32)))] [(.int (191 : Int32)), (.int (c2 &&& (255 : Int32)))])) t → Steps p.tables e below (T0.setTop (mkF m 151 #[.val (.ref a1), .val (.int p2), .val (.int p3), .val (.int xx), .val (.int (3 : Int32)), .val (.int lo), .val (.int hi), .val (.int (1 : Int32)), .unset] [])) t := by
              intro t k
              refine pre11 t ?_
              show Steps p.tables e below (T0.setTop (mkF m 197 #[.val (.ref a1), .val (.int p2), .val (.int p3), .val (.int xx), .val (.int (3 : Int32)), .val (.int lo), .val (.int hi), .val (.int (2 : Int32)), .val (.int (c2 &&& (255 : Int32)))] [(.int (128 : Int32)), (.int (c2 &&& (255 : Int32)))])) _
              refine XS.icmpNo X0.here hx rfl (hb hby d2_197) rfl (flt hc197_12).1 ?_
              refine XS.iload X0.here hx rfl (hb hby d2_200) rfl ?_
              refine XS.iload X0.here hx rfl (hb hby d2_202) rfl ?_
              refine XS.iconst X0.here hx rfl (hb hby d2_204) ?_
              show Steps p.tables e below (T0.setTop (mkF m 205 #[.val (.ref a1), .val (.int p2), .val (.int p3), .val (.int xx), .val (.int (3 : Int32)), .val (.int lo), .val (.int hi), .val (.int (2 : Int32)), .val (.int (c2 &&& (255 : Int32)))] [(.int (1 : Int32)), (.int (2 : Int32)), (.int (c2 &&& (255 : Int32)))])) _
              refine XS.icmpYes X0.here hx rfl (pc0 := 205) (pc' := 213) rfl (hb hby d2_205) rfl (feq (by decide : ¬ ((2 : Int32) = (1 : Int32)))).2 (by decide) (by decide) ?_
              refine XS.sipush X0.here hx rfl (hb hby d2_213) ?_
              exact k
            by_cases hc216_15 : (191 : Int32) < (c2 &&& (255 : Int32))
            · have i_hc216_15 : (191 : Int32).toInt < (c2 &&& (255 : Int32)).toInt := (Int32.lt_iff_toInt_lt).mp hc216_15
              have pre16 : ∀ t, Steps p.tables e below (T0.setTop (mkF m 223 #[.val (.ref a1), .val (.int p2), .val (.int p3), .val (.int xx), .val (.int (3 : Int32)), .val (.int lo), .val (.int hi), .val (.int (2 : Int32)), .val (.int (c2 &&& (255 : Int32)))] [(.int (-3 : Int32))])) t → Steps p.tables e below (T0.setTop (mkF m 151 #[.val (.ref a1), .val (.int p2), .val (.int p3), .val (.int xx), .val (.int (3 : Int32)), .val (.int lo), .val (.int hi), .val (.int (1 : Int32)), .unset] [])) t := by
                intro t k
                refine pre14 t ?_
                show Steps p.tables e below (T0.setTop (mkF m 216 #[.val (.ref a1), .val (.int p2), .val (.int p3), .val (.int xx), .val (.int (3 : Int32)), .val (.int lo), .val (.int hi), .val (.int (2 : Int32)), .val (.int (c2 &&& (255 : Int32)))] [(.int (191 : Int32)), (.int (c2 &&& (255 : Int32)))])) _
                refine XS.icmpNo X0.here hx rfl (hb hby d2_216) rfl (tlt hc216_15).2.2.2 ?_
                refine XS.iconst X0.here hx rfl (hb hby d2_219) ?_
                refine XS.iload X0.here hx rfl (hb hby d2_220) rfl ?_
                show Steps p.tables e below (T0.setTop (mkF m 222 #[.val (.ref a1), .val (.int p2), .val (.int p3), .val (.int xx), .val (.int (3 : Int32)), .val (.int lo), .val (.int hi), .val (.int (2 : Int32)), .val (.int (c2 &&& (255 : Int32)))] [(.int (2 : Int32)), (.int (-1 : Int32))])) _
                refine XS.isub X0.here hx rfl (hb hby d2_222) rfl ?_
                exact k
              have eT : own_T 3 (c1 &&& (255 : Int32)).toInt (c2 &&& (255 : Int32)).toInt (c3 &&& (255 : Int32)).toInt (p3.toInt - p2.toInt - 1) lo.toInt hi.toInt = (-3 : Int32) := (lf2_7 ((c0 &&& (255 : Int32)).toInt) ((c1 &&& (255 : Int32)).toInt) ((c2 &&& (255 : Int32)).toInt) ((c3 &&& (255 : Int32)).toInt) ((p2 + (1 : Int32)).toInt) ((p2 + (2 : Int32)).toInt) ((p2 + (3 : Int32)).toInt) (p2.toInt) (p3.toInt) (lo.toInt) (hi.toInt) ho1 ho2 ho3 i_hc163_2 i_hc197_4 i_hc216_7 i_hc163_10 i_hc197_12 i_hc216_15)
              refine ⟨223, #[.val (.ref a1), .val (.int p2), .val (.int p3), .val (.int xx), .val (.int (3 : Int32)), .val (.int lo), .val (.int hi), .val (.int (2 : Int32)), .val (.int (c2 &&& (255 : Int32)))], hb hby d2_223, fun t k => pre16 t ?_⟩
              rw [eT] at k
              exact k
            · have i_hc216_15 : ¬ ((191 : Int32).toInt < (c2 &&& (255 : Int32)).toInt) := fun q => hc216_15 ((Int32.lt_iff_toInt_lt).mpr q)
              have pre17 : ∀ t, Steps p.tables e below (T0.setTop (mkF m 232 #[.val (.ref a1), .val (.int p2), .val (.int p3), .val (.int xx), .val (.int (3 : Int32)), .val (.int lo), .val (.int hi), .val (.int (3 : Int32)), .val (.int (c2 &&& (255 : Int32)))] [(.int (3 : Int32))])) t → Steps p.tables e below (T0.setTop (mkF m 151 #[.val (.ref a1), .val (.int p2), .val (.int p3), .val (.int xx), .val (.int (3 : Int32)), .val (.int lo), .val (.int hi), .val (.int (1 : Int32)), .unset] [])) t := by
                intro t k
                refine pre14 t ?_
                show Steps p.tables e below (T0.setTop (mkF m 216 #[.val (.ref a1), .val (.int p2), .val (.int p3), .val (.int xx), .val (.int (3 : Int32)), .val (.int lo), .val (.int hi), .val (.int (2 : Int32)), .val (.int (c2 &&& (255 : Int32)))] [(.int (191 : Int32)), (.int (c2 &&& (255 : Int32)))])) _
                refine XS.icmpYes X0.here hx rfl (pc0 := 216) (pc' := 224) rfl (hb hby d2_216) rfl (flt hc216_15).2.2.2 (by decide) (by decide) ?_
                show Steps p.tables e below (T0.setTop (mkF m 224 #[.val (.ref a1), .val (.int p2), .val (.int p3), .val (.int xx), .val (.int (3 : Int32)), .val (.int lo), .val (.int hi), .val (.int (2 : Int32)), .val (.int (c2 &&& (255 : Int32)))] [])) _
                refine XS.iinc X0.here hx rfl (hb hby d2_224) rfl (l' := #[.val (.ref a1), .val (.int p2), .val (.int p3), .val (.int xx), .val (.int (3 : Int32)), .val (.int lo), .val (.int hi), .val (.int (3 : Int32)), .val (.int (c2 &&& (255 : Int32)))]) rfl ?_
                refine XS.goto X0.here hx rfl (pc0 := 227) (pc' := 151) rfl (hb hby d2_227) (by decide) (by decide) ?_
                refine XS.iload X0.here hx rfl (hb hby d2_151) rfl ?_
                refine XS.iload X0.here hx rfl (hb hby d2_153) rfl ?_
                show Steps p.tables e below (T0.setTop (mkF m 155 #[.val (.ref a1), .val (.int p2), .val (.int p3), .val (.int xx), .val (.int (3 : Int32)), .val (.int lo), .val (.int hi), .val (.int (3 : Int32)), .val (.int (c2 &&& (255 : Int32)))] [(.int (3 : Int32)), (.int (3 : Int32))])) _
                refine XS.icmpYes X0.here hx rfl (pc0 := 155) (pc' := 230) rfl (hb hby d2_155) rfl (flt (by decide : ¬ ((3 : Int32) < (3 : Int32)))).2.1 (by decide) (by decide) ?_
                refine XS.iload X0.here hx rfl (hb hby d2_230) rfl ?_
                exact k
              have eT : own_T 3 (c1 &&& (255 : Int32)).toInt (c2 &&& (255 : Int32)).toInt (c3 &&& (255 : Int32)).toInt (p3.toInt - p2.toInt - 1) lo.toInt hi.toInt = (3 : Int32) := (lf2_8 ((c0 &&& (255 : Int32)).toInt) ((c1 &&& (255 : Int32)).toInt) ((c2 &&& (255 : Int32)).toInt) ((c3 &&& (255 : Int32)).toInt) ((p2 + (1 : Int32)).toInt) ((p2 + (2 : Int32)).toInt) ((p2 + (3 : Int32)).toInt) (p2.toInt) (p3.toInt) (lo.toInt) (hi.toInt) ho1 ho2 ho3 i_hc163_2 i_hc197_4 i_hc216_7 i_hc163_10 i_hc197_12 i_hc216_15)
              refine ⟨232, #[.val (.ref a1), .val (.int p2), .val (.int p3), .val (.int xx), .val (.int (3 : Int32)), .val (.int lo), .val (.int hi), .val (.int (3 : Int32)), .val (.int (c2 &&& (255 : Int32)))], hb hby d2_232, fun t k => pre17 t ?_⟩
              rw [eT] at k
              exact k
        · have i_hc163_10 : ¬ ((p2 + (2 : Int32)).toInt < p3.toInt) := fun q => hc163_10 ((Int32.lt_iff_toInt_lt).mpr q)
          have pre18 : ∀ t, Steps p.tables e below (T0.setTop (mkF m 168 #[.val (.ref a1), .val (.int p2), .val (.int p3), .val (.int xx), .val (.int (3 : Int32)), .val (.int lo), .val (.int hi), .val (.int (2 : Int32)), .val (.int (c1 &&& (255 : Int32)))] [(.int (-2147483648 : Int32))])) t → Steps p.tables e below (T0.setTop (mkF m 151 #[.val (.ref a1), .val (.int p2), .val (.int p3), .val (.int xx), .val (.int (3 : Int32)), .val (.int lo), .val (.int hi), .val (.int (1 : Int32)), .unset] [])) t := by
            intro t k
            refine pre9 t ?_
            show Steps p.tables e below (T0.setTop (mkF m 163 #[.val (.ref a1), .val (.int p2), .val (.int p3), .val (.int xx), .val (.int (3 : Int32)), .val (.int lo), .val (.int hi), .val (.int (2 : Int32)), .val (.int (c1 &&& (255 : Int32)))] [(.int p3), (.int (p2 + (2 : Int32)))])) _
            refine XS.icmpNo X0.here hx rfl (hb hby d2_163) rfl (flt hc163_10).1 ?_
            show Steps p.tables e below (T0.setTop (mkF m 166 #[.val (.ref a1), .val (.int p2), .val (.int p3), .val (.int xx), .val (.int (3 : Int32)), .val (.int lo), .val (.int hi), .val (.int (2 : Int32)), .val (.int (c1 &&& (255 : Int32)))] [])) _
            refine X0.ldcInt hx hown (mvT hZ (hw _ (List.mem_of_getElem? (i := 10) rfl))) (g := (mkF m 166 #[.val (.ref a1), .val (.int p2), .val (.int p3), .val (.int xx), .val (.int (3 : Int32)), .val (.int lo), .val (.int hi), .val (.int (2 : Int32)), .val (.int (c1 &&& (255 : Int32)))] [])) rfl (hb hby d2_166) _ ?_
            exact k
          have eT : own_T 3 (c1 &&& (255 : Int32)).toInt (c2 &&& (255 : Int32)).toInt (c3 &&& (255 : Int32)).toInt (p3.toInt - p2.toInt - 1) lo.toInt hi.toInt = (-2147483648 : Int32) := (lf2_9 ((c0 &&& (255 : Int32)).toInt) ((c1 &&& (255 : Int32)).toInt) ((c2 &&& (255 : Int32)).toInt) ((c3 &&& (255 : Int32)).toInt) ((p2 + (1 : Int32)).toInt) ((p2 + (2 : Int32)).toInt) ((p2 + (3 : Int32)).toInt) (p2.toInt) (p3.toInt) (lo.toInt) (hi.toInt) ho1 ho2 ho3 i_hc163_2 i_hc197_4 i_hc216_7 i_hc163_10)
          refine ⟨168, #[.val (.ref a1), .val (.int p2), .val (.int p3), .val (.int xx), .val (.int (3 : Int32)), .val (.int lo), .val (.int hi), .val (.int (2 : Int32)), .val (.int (c1 &&& (255 : Int32)))], hb hby d2_168, fun t k => pre18 t ?_⟩
          rw [eT] at k
          exact k
  · have i_hc163_2 : ¬ ((p2 + (1 : Int32)).toInt < p3.toInt) := fun q => hc163_2 ((Int32.lt_iff_toInt_lt).mpr q)
    have pre19 : ∀ t, Steps p.tables e below (T0.setTop (mkF m 168 #[.val (.ref a1), .val (.int p2), .val (.int p3), .val (.int xx), .val (.int (3 : Int32)), .val (.int lo), .val (.int hi), .val (.int (1 : Int32)), .unset] [(.int (-2147483648 : Int32))])) t → Steps p.tables e below (T0.setTop (mkF m 151 #[.val (.ref a1), .val (.int p2), .val (.int p3), .val (.int xx), .val (.int (3 : Int32)), .val (.int lo), .val (.int hi), .val (.int (1 : Int32)), .unset] [])) t := by
      intro t k
      refine pre1 t ?_
      show Steps p.tables e below (T0.setTop (mkF m 163 #[.val (.ref a1), .val (.int p2), .val (.int p3), .val (.int xx), .val (.int (3 : Int32)), .val (.int lo), .val (.int hi), .val (.int (1 : Int32)), .unset] [(.int p3), (.int (p2 + (1 : Int32)))])) _
      refine XS.icmpNo X0.here hx rfl (hb hby d2_163) rfl (flt hc163_2).1 ?_
      show Steps p.tables e below (T0.setTop (mkF m 166 #[.val (.ref a1), .val (.int p2), .val (.int p3), .val (.int xx), .val (.int (3 : Int32)), .val (.int lo), .val (.int hi), .val (.int (1 : Int32)), .unset] [])) _
      refine X0.ldcInt hx hown (mvT hZ (hw _ (List.mem_of_getElem? (i := 10) rfl))) (g := (mkF m 166 #[.val (.ref a1), .val (.int p2), .val (.int p3), .val (.int xx), .val (.int (3 : Int32)), .val (.int lo), .val (.int hi), .val (.int (1 : Int32)), .unset] [])) rfl (hb hby d2_166) _ ?_
      exact k
    have eT : own_T 3 (c1 &&& (255 : Int32)).toInt (c2 &&& (255 : Int32)).toInt (c3 &&& (255 : Int32)).toInt (p3.toInt - p2.toInt - 1) lo.toInt hi.toInt = (-2147483648 : Int32) := (lf2_10 ((c0 &&& (255 : Int32)).toInt) ((c1 &&& (255 : Int32)).toInt) ((c2 &&& (255 : Int32)).toInt) ((c3 &&& (255 : Int32)).toInt) ((p2 + (1 : Int32)).toInt) ((p2 + (2 : Int32)).toInt) ((p2 + (3 : Int32)).toInt) (p2.toInt) (p3.toInt) (lo.toInt) (hi.toInt) ho1 ho2 ho3 i_hc163_2)
    refine ⟨168, #[.val (.ref a1), .val (.int p2), .val (.int p3), .val (.int xx), .val (.int (3 : Int32)), .val (.int lo), .val (.int hi), .val (.int (1 : Int32)), .unset], hb hby d2_168, fun t k => pre19 t ?_⟩
    rw [eT] at k
    exact k
theorem lf2_11 (x0 x1 x2 x3 o1 o2 o3 oo lm lo hi : Int) (h0 : o1 = oo + 1) (h1 : o2 = oo + 2) (h2 : o3 = oo + 3) (h3 : o1 < lm) (h4 : x1 < lo) : own_T 4 x1 x2 x3 (lm - oo - 1) lo hi = (-2 : Int32) := own_T1 (by omega) (by omega)
theorem lf2_12 (x0 x1 x2 x3 o1 o2 o3 oo lm lo hi : Int) (h0 : o1 = oo + 1) (h1 : o2 = oo + 2) (h2 : o3 = oo + 3) (h3 : o1 < lm) (h4 : ¬ (x1 < lo)) (h5 : hi < x1) : own_T 4 x1 x2 x3 (lm - oo - 1) lo hi = (-2 : Int32) := own_T1 (by omega) (by omega)
theorem lf2_13 (x0 x1 x2 x3 o1 o2 o3 oo lm lo hi : Int) (h0 : o1 = oo + 1) (h1 : o2 = oo + 2) (h2 : o3 = oo + 3) (h3 : o1 < lm) (h4 : ¬ (x1 < lo)) (h5 : ¬ (hi < x1)) (h6 : o2 < lm) (h7 : x2 < 128) : own_T 4 x1 x2 x3 (lm - oo - 1) lo hi = (-3 : Int32) := own_T4 (by omega) (by omega) (by omega) (by omega) (by omega)
theorem lf2_14 (x0 x1 x2 x3 o1 o2 o3 oo lm lo hi : Int) (h0 : o1 = oo + 1) (h1 : o2 = oo + 2) (h2 : o3 = oo + 3) (h3 : o1 < lm) (h4 : ¬ (x1 < lo)) (h5 : ¬ (hi < x1)) (h6 : o2 < lm) (h7 : ¬ (x2 < 128)) (h8 : 191 < x2) : own_T 4 x1 x2 x3 (lm - oo - 1) lo hi = (-3 : Int32) := own_T4 (by omega) (by omega) (by omega) (by omega) (by omega)
theorem lf2_15 (x0 x1 x2 x3 o1 o2 o3 oo lm lo hi : Int) (h0 : o1 = oo + 1) (h1 : o2 = oo + 2) (h2 : o3 = oo + 3) (h3 : o1 < lm) (h4 : ¬ (x1 < lo)) (h5 : ¬ (hi < x1)) (h6 : o2 < lm) (h7 : ¬ (x2 < 128)) (h8 : ¬ (191 < x2)) (h9 : o3 < lm) (h10 : x3 < 128) : own_T 4 x1 x2 x3 (lm - oo - 1) lo hi = (-4 : Int32) := own_T7 (by omega) (by omega) (by omega) (by omega) (by omega) (by omega) (by omega) (by omega)
theorem lf2_16 (x0 x1 x2 x3 o1 o2 o3 oo lm lo hi : Int) (h0 : o1 = oo + 1) (h1 : o2 = oo + 2) (h2 : o3 = oo + 3) (h3 : o1 < lm) (h4 : ¬ (x1 < lo)) (h5 : ¬ (hi < x1)) (h6 : o2 < lm) (h7 : ¬ (x2 < 128)) (h8 : ¬ (191 < x2)) (h9 : o3 < lm) (h10 : ¬ (x3 < 128)) (h11 : 191 < x3) : own_T 4 x1 x2 x3 (lm - oo - 1) lo hi = (-4 : Int32) := own_T7 (by omega) (by omega) (by omega) (by omega) (by omega) (by omega) (by omega) (by omega)
theorem lf2_17 (x0 x1 x2 x3 o1 o2 o3 oo lm lo hi : Int) (h0 : o1 = oo + 1) (h1 : o2 = oo + 2) (h2 : o3 = oo + 3) (h3 : o1 < lm) (h4 : ¬ (x1 < lo)) (h5 : ¬ (hi < x1)) (h6 : o2 < lm) (h7 : ¬ (x2 < 128)) (h8 : ¬ (191 < x2)) (h9 : o3 < lm) (h10 : ¬ (x3 < 128)) (h11 : ¬ (191 < x3)) : own_T 4 x1 x2 x3 (lm - oo - 1) lo hi = (4 : Int32) := own_T8 (by omega) (by omega) (by omega) (by omega) (by omega) (by omega) (by omega) (by omega)
theorem lf2_18 (x0 x1 x2 x3 o1 o2 o3 oo lm lo hi : Int) (h0 : o1 = oo + 1) (h1 : o2 = oo + 2) (h2 : o3 = oo + 3) (h3 : o1 < lm) (h4 : ¬ (x1 < lo)) (h5 : ¬ (hi < x1)) (h6 : o2 < lm) (h7 : ¬ (x2 < 128)) (h8 : ¬ (191 < x2)) (h9 : ¬ (o3 < lm)) : own_T 4 x1 x2 x3 (lm - oo - 1) lo hi = (-2147483648 : Int32) := own_T6 (by omega) (by omega) (by omega) (by omega) (by omega) (by omega) (by omega)
theorem lf2_19 (x0 x1 x2 x3 o1 o2 o3 oo lm lo hi : Int) (h0 : o1 = oo + 1) (h1 : o2 = oo + 2) (h2 : o3 = oo + 3) (h3 : o1 < lm) (h4 : ¬ (x1 < lo)) (h5 : ¬ (hi < x1)) (h6 : ¬ (o2 < lm)) : own_T 4 x1 x2 x3 (lm - oo - 1) lo hi = (-2147483648 : Int32) := own_T3 (by omega) (by omega) (by omega) (by omega)
theorem lf2_20 (x0 x1 x2 x3 o1 o2 o3 oo lm lo hi : Int) (h0 : o1 = oo + 1) (h1 : o2 = oo + 2) (h2 : o3 = oo + 3) (h3 : ¬ (o1 < lm)) : own_T 4 x1 x2 x3 (lm - oo - 1) lo hi = (-2147483648 : Int32) := own_T0 (by omega)
set_option maxRecDepth 65536 in
set_option maxHeartbeats 40000000 in
theorem segT4 {p : Program} {l : Launch} {e : Env} {s : State} {m : MethodId} {args : Array Value} {below : List Frame} {meth : Method} {c : Code} {T0 : State} {locs : List Loc} {Z : State} {a0 : Array Value} {h0 : Heap} {n0 : Nat} {R : Room} (a1 : Addr) (p2 p3 xx lo hi : Int32) (cl : Cell) (c0 c1 c2 c3 : Int32) (X0 : Stand p l e R s m args below meth c T0 locs 0 0) (hx : p.tables.exec = Jvm.exec) (hZ : Z.Warmed39 s.vm) (hw : ∀ d ∈ tables_1, d.before a0 Z = true) (hby : c.code = prog_168_method_19_code) (hml : c.maxLocals = 9) (hown : s.vm.findClass "com/example/kindgen/kindgen/runtime/Utf8Cursor" = some m.cls) (e0 : T0.heap = h0) (Z0 : n0 ≤ h0.size) (N0 : Fr n0 locs) (Ar : Arr Z h0 a1 cl .byte) (hin0 : ¬ (p2 < 0 ∨ cl.slots.size ≤ (p2).toNatClampNeg)) (hat0 : cl.slots[(p2).toNatClampNeg]? = some (.int c0)) (hin1 : ¬ ((p2 + (1 : Int32)) < 0 ∨ cl.slots.size ≤ ((p2 + (1 : Int32))).toNatClampNeg)) (hat1 : cl.slots[((p2 + (1 : Int32))).toNatClampNeg]? = some (.int c1)) (hin2 : ¬ ((p2 + (2 : Int32)) < 0 ∨ cl.slots.size ≤ ((p2 + (2 : Int32))).toNatClampNeg)) (hat2 : cl.slots[((p2 + (2 : Int32))).toNatClampNeg]? = some (.int c2)) (hin3 : ¬ ((p2 + (3 : Int32)) < 0 ∨ cl.slots.size ≤ ((p2 + (3 : Int32))).toNatClampNeg)) (hat3 : cl.slots[((p2 + (3 : Int32))).toNatClampNeg]? = some (.int c3)) (ho1 : ((p2 + (1 : Int32))).toInt = p2.toInt + 1) (ho2 : ((p2 + (2 : Int32))).toInt = p2.toInt + 2) (ho3 : ((p2 + (3 : Int32))).toInt = p2.toInt + 3) :
    ∃ (pc : Nat) (Ls : Array Slot), decode c.code pc = .ok (.ireturn, 1) ∧ ∀ t, Steps p.tables e below (T0.setTop (mkF m pc Ls [.int (own_T 4 (c1 &&& (255 : Int32)).toInt (c2 &&& (255 : Int32)).toInt (c3 &&& (255 : Int32)).toInt (p3.toInt - p2.toInt - 1) lo.toInt hi.toInt)])) t → Steps p.tables e below (T0.setTop (mkF m 151 #[.val (.ref a1), .val (.int p2), .val (.int p3), .val (.int xx), .val (.int (4 : Int32)), .val (.int lo), .val (.int hi), .val (.int (1 : Int32)), .unset] [])) t := by
  have pre0 : ∀ t, Steps p.tables e below (T0.setTop (mkF m 151 #[.val (.ref a1), .val (.int p2), .val (.int p3), .val (.int xx), .val (.int (4 : Int32)), .val (.int lo), .val (.int hi), .val (.int (1 : Int32)), .unset] [])) t → Steps p.tables e below (T0.setTop (mkF m 151 #[.val (.ref a1), .val (.int p2), .val (.int p3), .val (.int xx), .val (.int (4 : Int32)), .val (.int lo), .val (.int hi), .val (.int (1 : Int32)), .unset] [])) t := fun t k => k
  have pre1 : ∀ t, Steps p.tables e below (T0.setTop (mkF m 163 #[.val (.ref a1), .val (.int p2), .val (.int p3), .val (.int xx), .val (.int (4 : Int32)), .val (.int lo), .val (.int hi), .val (.int (1 : Int32)), .unset] [(.int p3), (.int (p2 + (1 : Int32)))])) t → Steps p.tables e below (T0.setTop (mkF m 151 #[.val (.ref a1), .val (.int p2), .val (.int p3), .val (.int xx), .val (.int (4 : Int32)), .val (.int lo), .val (.int hi), .val (.int (1 : Int32)), .unset] [])) t := by
    intro t k
    refine pre0 t ?_
    show Steps p.tables e below (T0.setTop (mkF m 151 #[.val (.ref a1), .val (.int p2), .val (.int p3), .val (.int xx), .val (.int (4 : Int32)), .val (.int lo), .val (.int hi), .val (.int (1 : Int32)), .unset] [])) _
    refine XS.iload X0.here hx rfl (hb hby d2_151) rfl ?_
    refine XS.iload X0.here hx rfl (hb hby d2_153) rfl ?_
    show Steps p.tables e below (T0.setTop (mkF m 155 #[.val (.ref a1), .val (.int p2), .val (.int p3), .val (.int xx), .val (.int (4 : Int32)), .val (.int lo), .val (.int hi), .val (.int (1 : Int32)), .unset] [(.int (4 : Int32)), (.int (1 : Int32))])) _
    refine XS.icmpNo X0.here hx rfl (hb hby d2_155) rfl (tlt (by decide : (1 : Int32) < (4 : Int32))).2.1 ?_
    refine XS.iloadN X0.here hx rfl (hb hby d2_158) rfl ?_
    refine XS.iload X0.here hx rfl (hb hby d2_159) rfl ?_
    refine XS.iadd X0.here hx rfl (hb hby d2_161) rfl ?_
    show Steps p.tables e below (T0.setTop (mkF m 162 #[.val (.ref a1), .val (.int p2), .val (.int p3), .val (.int xx), .val (.int (4 : Int32)), .val (.int lo), .val (.int hi), .val (.int (1 : Int32)), .unset] [(.int (p2 + (1 : Int32)))])) _
    refine XS.iloadN X0.here hx rfl (hb hby d2_162) rfl ?_
    exact k
  by_cases hc163_2 : (p2 + (1 : Int32)) < p3
  · have i_hc163_2 : (p2 + (1 : Int32)).toInt < p3.toInt := (Int32.lt_iff_toInt_lt).mp hc163_2
    have pre3 : ∀ t, Steps p.tables e below (T0.setTop (mkF m 197 #[.val (.ref a1), .val (.int p2), .val (.int p3), .val (.int xx), .val (.int (4 : Int32)), .val (.int lo), .val (.int hi), .val (.int (1 : Int32)), .val (.int (c1 &&& (255 : Int32)))] [(.int lo), (.int (c1 &&& (255 : Int32)))])) t → Steps p.tables e below (T0.setTop (mkF m 151 #[.val (.ref a1), .val (.int p2), .val (.int p3), .val (.int xx), .val (.int (4 : Int32)), .val (.int lo), .val (.int hi), .val (.int (1 : Int32)), .unset] [])) t := by
      intro t k
      refine pre1 t ?_
      show Steps p.tables e below (T0.setTop (mkF m 163 #[.val (.ref a1), .val (.int p2), .val (.int p3), .val (.int xx), .val (.int (4 : Int32)), .val (.int lo), .val (.int hi), .val (.int (1 : Int32)), .unset] [(.int p3), (.int (p2 + (1 : Int32)))])) _
      refine XS.icmpYes X0.here hx rfl (pc0 := 163) (pc' := 169) rfl (hb hby d2_163) rfl (tlt hc163_2).1 (by decide) (by decide) ?_
      refine XS.aloadN X0.here hx rfl (hb hby d2_169) rfl rfl ?_
      refine XS.iloadN X0.here hx rfl (hb hby d2_170) rfl ?_
      refine XS.iload X0.here hx rfl (hb hby d2_171) rfl ?_
      show Steps p.tables e below (T0.setTop (mkF m 173 #[.val (.ref a1), .val (.int p2), .val (.int p3), .val (.int xx), .val (.int (4 : Int32)), .val (.int lo), .val (.int hi), .val (.int (1 : Int32)), .unset] [(.int (1 : Int32)), (.int p2), (.ref a1)])) _
      refine XS.iadd X0.here hx rfl (hb hby d2_173) rfl ?_
      show Steps p.tables e below (T0.setTop (mkF m 174 #[.val (.ref a1), .val (.int p2), .val (.int p3), .val (.int xx), .val (.int (4 : Int32)), .val (.int lo), .val (.int hi), .val (.int (1 : Int32)), .unset] [(.int (p2 + (1 : Int32))), (.ref a1)])) _
      refine X0.baloadBytes hx (j := (p2 + (1 : Int32))) (v := (.int c1)) (by rw [e0]; exact Ar.1) (State.isArrayOf_alike hZ.alike Ar.2.1) Ar.2.2 hin1 hat1 (g := (mkF m 174 #[.val (.ref a1), .val (.int p2), .val (.int p3), .val (.int xx), .val (.int (4 : Int32)), .val (.int lo), .val (.int hi), .val (.int (1 : Int32)), .unset] [(.int (p2 + (1 : Int32))), (.ref a1)])) rfl rfl (hb hby d2_174) _ ?_
      refine XS.sipush X0.here hx rfl (hb hby d2_175) ?_
      refine XS.iand X0.here hx rfl (hb hby d2_178) rfl ?_
      refine XS.istore X0.here hx rfl (hb hby d2_179) rfl (l' := #[.val (.ref a1), .val (.int p2), .val (.int p3), .val (.int xx), .val (.int (4 : Int32)), .val (.int lo), .val (.int hi), .val (.int (1 : Int32)), .val (.int (c1 &&& (255 : Int32)))]) rfl ?_
      show Steps p.tables e below (T0.setTop (mkF m 181 #[.val (.ref a1), .val (.int p2), .val (.int p3), .val (.int xx), .val (.int (4 : Int32)), .val (.int lo), .val (.int hi), .val (.int (1 : Int32)), .val (.int (c1 &&& (255 : Int32)))] [])) _
      refine XS.iload X0.here hx rfl (hb hby d2_181) rfl ?_
      refine XS.iload X0.here hx rfl (hb hby d2_183) rfl ?_
      refine XS.iconst X0.here hx rfl (hb hby d2_185) ?_
      show Steps p.tables e below (T0.setTop (mkF m 186 #[.val (.ref a1), .val (.int p2), .val (.int p3), .val (.int xx), .val (.int (4 : Int32)), .val (.int lo), .val (.int hi), .val (.int (1 : Int32)), .val (.int (c1 &&& (255 : Int32)))] [(.int (1 : Int32)), (.int (1 : Int32)), (.int (c1 &&& (255 : Int32)))])) _
      refine XS.icmpNo X0.here hx rfl (hb hby d2_186) rfl (teq (by decide : (1 : Int32) = (1 : Int32))).2 ?_
      refine XS.iload X0.here hx rfl (hb hby d2_189) rfl ?_
      refine XS.goto X0.here hx rfl (pc0 := 191) (pc' := 197) rfl (hb hby d2_191) (by decide) (by decide) ?_
      exact k
    by_cases hc197_4 : (c1 &&& (255 : Int32)) < lo
    · have i_hc197_4 : (c1 &&& (255 : Int32)).toInt < lo.toInt := (Int32.lt_iff_toInt_lt).mp hc197_4
      have pre5 : ∀ t, Steps p.tables e below (T0.setTop (mkF m 223 #[.val (.ref a1), .val (.int p2), .val (.int p3), .val (.int xx), .val (.int (4 : Int32)), .val (.int lo), .val (.int hi), .val (.int (1 : Int32)), .val (.int (c1 &&& (255 : Int32)))] [(.int (-2 : Int32))])) t → Steps p.tables e below (T0.setTop (mkF m 151 #[.val (.ref a1), .val (.int p2), .val (.int p3), .val (.int xx), .val (.int (4 : Int32)), .val (.int lo), .val (.int hi), .val (.int (1 : Int32)), .unset] [])) t := by
        intro t k
        refine pre3 t ?_
        show Steps p.tables e below (T0.setTop (mkF m 197 #[.val (.ref a1), .val (.int p2), .val (.int p3), .val (.int xx), .val (.int (4 : Int32)), .val (.int lo), .val (.int hi), .val (.int (1 : Int32)), .val (.int (c1 &&& (255 : Int32)))] [(.int lo), (.int (c1 &&& (255 : Int32)))])) _
        refine XS.icmpYes X0.here hx rfl (pc0 := 197) (pc' := 219) rfl (hb hby d2_197) rfl (tlt hc197_4).1 (by decide) (by decide) ?_
        refine XS.iconst X0.here hx rfl (hb hby d2_219) ?_
        refine XS.iload X0.here hx rfl (hb hby d2_220) rfl ?_
        show Steps p.tables e below (T0.setTop (mkF m 222 #[.val (.ref a1), .val (.int p2), .val (.int p3), .val (.int xx), .val (.int (4 : Int32)), .val (.int lo), .val (.int hi), .val (.int (1 : Int32)), .val (.int (c1 &&& (255 : Int32)))] [(.int (1 : Int32)), (.int (-1 : Int32))])) _
        refine XS.isub X0.here hx rfl (hb hby d2_222) rfl ?_
        exact k
      have eT : own_T 4 (c1 &&& (255 : Int32)).toInt (c2 &&& (255 : Int32)).toInt (c3 &&& (255 : Int32)).toInt (p3.toInt - p2.toInt - 1) lo.toInt hi.toInt = (-2 : Int32) := (lf2_11 ((c0 &&& (255 : Int32)).toInt) ((c1 &&& (255 : Int32)).toInt) ((c2 &&& (255 : Int32)).toInt) ((c3 &&& (255 : Int32)).toInt) ((p2 + (1 : Int32)).toInt) ((p2 + (2 : Int32)).toInt) ((p2 + (3 : Int32)).toInt) (p2.toInt) (p3.toInt) (lo.toInt) (hi.toInt) ho1 ho2 ho3 i_hc163_2 i_hc197_4)
      refine ⟨223, #[.val (.ref a1), .val (.int p2), .val (.int p3), .val (.int xx), .val (.int (4 : Int32)), .val (.int lo), .val (.int hi), .val (.int (1 : Int32)), .val (.int (c1 &&& (255 : Int32)))], hb hby d2_223, fun t k => pre5 t ?_⟩
      rw [eT] at k
      exact k
    · have i_hc197_4 : ¬ ((c1 &&& (255 : Int32)).toInt < lo.toInt) := fun q => hc197_4 ((Int32.lt_iff_toInt_lt).mpr q)
      have pre6 : ∀ t, Steps p.tables e below (T0.setTop (mkF m 216 #[.val (.ref a1), .val (.int p2), .val (.int p3), .val (.int xx), .val (.int (4 : Int32)), .val (.int lo), .val (.int hi), .val (.int (1 : Int32)), .val (.int (c1 &&& (255 : Int32)))] [(.int hi), (.int (c1 &&& (255 : Int32)))])) t → Steps p.tables e below (T0.setTop (mkF m 151 #[.val (.ref a1), .val (.int p2), .val (.int p3), .val (.int xx), .val (.int (4 : Int32)), .val (.int lo), .val (.int hi), .val (.int (1 : Int32)), .unset] [])) t := by
        intro t k
        refine pre3 t ?_
        show Steps p.tables e below (T0.setTop (mkF m 197 #[.val (.ref a1), .val (.int p2), .val (.int p3), .val (.int xx), .val (.int (4 : Int32)), .val (.int lo), .val (.int hi), .val (.int (1 : Int32)), .val (.int (c1 &&& (255 : Int32)))] [(.int lo), (.int (c1 &&& (255 : Int32)))])) _
        refine XS.icmpNo X0.here hx rfl (hb hby d2_197) rfl (flt hc197_4).1 ?_
        refine XS.iload X0.here hx rfl (hb hby d2_200) rfl ?_
        refine XS.iload X0.here hx rfl (hb hby d2_202) rfl ?_
        refine XS.iconst X0.here hx rfl (hb hby d2_204) ?_
        show Steps p.tables e below (T0.setTop (mkF m 205 #[.val (.ref a1), .val (.int p2), .val (.int p3), .val (.int xx), .val (.int (4 : Int32)), .val (.int lo), .val (.int hi), .val (.int (1 : Int32)), .val (.int (c1 &&& (255 : Int32)))] [(.int (1 : Int32)), (.int (1 : Int32)), (.int (c1 &&& (255 : Int32)))])) _
        refine XS.icmpNo X0.here hx rfl (hb hby d2_205) rfl (teq (by decide : (1 : Int32) = (1 : Int32))).2 ?_
        refine XS.iload X0.here hx rfl (hb hby d2_208) rfl ?_
        refine XS.goto X0.here hx rfl (pc0 := 210) (pc' := 216) rfl (hb hby d2_210) (by decide) (by decide) ?_
        exact k
      by_cases hc216_7 : hi < (c1 &&& (255 : Int32))
      · have i_hc216_7 : hi.toInt < (c1 &&& (255 : Int32)).toInt := (Int32.lt_iff_toInt_lt).mp hc216_7
        have pre8 : ∀ t, Steps p.tables e below (T0.setTop (mkF m 223 #[.val (.ref a1), .val (.int p2), .val (.int p3), .val (.int xx), .val (.int (4 : Int32)), .val (.int lo), .val (.int hi), .val (.int (1 : Int32)), .val (.int (c1 &&& (255 : Int32)))] [(.int (-2 : Int32))])) t → Steps p.tables e below (T0.setTop (mkF m 151 #[.val (.ref a1), .val (.int p2), .val (.int p3), .val (.int xx), .val (.int (4 : Int32)), .val (.int lo), .val (.int hi), .val (.int (1 : Int32)), .unset] [])) t := by
          intro t k
          refine pre6 t ?_
          show Steps p.tables e below (T0.setTop (mkF m 216 #[.val (.ref a1), .val (.int p2), .val (.int p3), .val (.int xx), .val (.int (4 : Int32)), .val (.int lo), .val (.int hi), .val (.int (1 : Int32)), .val (.int (c1 &&& (255 : Int32)))] [(.int hi), (.int (c1 &&& (255 : Int32)))])) _
          refine XS.icmpNo X0.here hx rfl (hb hby d2_216) rfl (tlt hc216_7).2.2.2 ?_
          refine XS.iconst X0.here hx rfl (hb hby d2_219) ?_
          refine XS.iload X0.here hx rfl (hb hby d2_220) rfl ?_
          show Steps p.tables e below (T0.setTop (mkF m 222 #[.val (.ref a1), .val (.int p2), .val (.int p3), .val (.int xx), .val (.int (4 : Int32)), .val (.int lo), .val (.int hi), .val (.int (1 : Int32)), .val (.int (c1 &&& (255 : Int32)))] [(.int (1 : Int32)), (.int (-1 : Int32))])) _
          refine XS.isub X0.here hx rfl (hb hby d2_222) rfl ?_
          exact k
        have eT : own_T 4 (c1 &&& (255 : Int32)).toInt (c2 &&& (255 : Int32)).toInt (c3 &&& (255 : Int32)).toInt (p3.toInt - p2.toInt - 1) lo.toInt hi.toInt = (-2 : Int32) := (lf2_12 ((c0 &&& (255 : Int32)).toInt) ((c1 &&& (255 : Int32)).toInt) ((c2 &&& (255 : Int32)).toInt) ((c3 &&& (255 : Int32)).toInt) ((p2 + (1 : Int32)).toInt) ((p2 + (2 : Int32)).toInt) ((p2 + (3 : Int32)).toInt) (p2.toInt) (p3.toInt) (lo.toInt) (hi.toInt) ho1 ho2 ho3 i_hc163_2 i_hc197_4 i_hc216_7)
        refine ⟨223, #[.val (.ref a1), .val (.int p2), .val (.int p3), .val (.int xx), .val (.int (4 : Int32)), .val (.int lo), .val (.int hi), .val (.int (1 : Int32)), .val (.int (c1 &&& (255 : Int32)))], hb hby d2_223, fun t k => pre8 t ?_⟩
        rw [eT] at k
        exact k
      · have i_hc216_7 : ¬ (hi.toInt < (c1 &&& (255 : Int32)).toInt) := fun q => hc216_7 ((Int32.lt_iff_toInt_lt).mpr q)
        have pre9 : ∀ t, Steps p.tables e below (T0.setTop (mkF m 163 #[.val (.ref a1), .val (.int p2), .val (.int p3), .val (.int xx), .val (.int (4 : Int32)), .val (.int lo), .val (.int hi), .val (.int (2 : Int32)), .val (.int (c1 &&& (255 : Int32)))] [(.int p3), (.int (p2 + (2 : Int32)))])) t → Steps p.tables e below (T0.setTop (mkF m 151 #[.val (.ref a1), .val (.int p2), .val (.int p3), .val (.int xx), .val (.int (4 : Int32)), .val (.int lo), .val (.int hi), .val (.int (1 : Int32)), .unset] [])) t := by
          intro t k
          refine pre6 t ?_
          show Steps p.tables e below (T0.setTop (mkF m 216 #[.val (.ref a1), .val (.int p2), .val (.int p3), .val (.int xx), .val (.int (4 : Int32)), .val (.int lo), .val (.int hi), .val (.int (1 : Int32)), .val (.int (c1 &&& (255 : Int32)))] [(.int hi), (.int (c1 &&& (255 : Int32)))])) _
          refine XS.icmpYes X0.here hx rfl (pc0 := 216) (pc' := 224) rfl (hb hby d2_216) rfl (flt hc216_7).2.2.2 (by decide) (by decide) ?_
          show Steps p.tables e below (T0.setTop (mkF m 224 #[.val (.ref a1), .val (.int p2), .val (.int p3), .val (.int xx), .val (.int (4 : Int32)), .val (.int lo), .val (.int hi), .val (.int (1 : Int32)), .val (.int (c1 &&& (255 : Int32)))] [])) _
          refine XS.iinc X0.here hx rfl (hb hby d2_224) rfl (l' := #[.val (.ref a1), .val (.int p2), .val (.int p3), .val (.int xx), .val (.int (4 : Int32)), .val (.int lo), .val (.int hi), .val (.int (2 : Int32)), .val (.int (c1 &&& (255 : Int32)))]) rfl ?_
          refine XS.goto X0.here hx rfl (pc0 := 227) (pc' := 151) rfl (hb hby d2_227) (by decide) (by decide) ?_
          refine XS.iload X0.here hx rfl (hb hby d2_151) rfl ?_
          refine XS.iload X0.here hx rfl (hb hby d2_153) rfl ?_
          show Steps p.tables e below (T0.setTop (mkF m 155 #[.val (.ref a1), .val (.int p2), .val (.int p3), .val (.int xx), .val (.int (4 : Int32)), .val (.int lo), .val (.int hi), .val (.int (2 : Int32)), .val (.int (c1 &&& (255 : Int32)))] [(.int (4 : Int32)), (.int (2 : Int32))])) _
          refine XS.icmpNo X0.here hx rfl (hb hby d2_155) rfl (tlt (by decide : (2 : Int32) < (4 : Int32))).2.1 ?_
          refine XS.iloadN X0.here hx rfl (hb hby d2_158) rfl ?_
          refine XS.iload X0.here hx rfl (hb hby d2_159) rfl ?_
          refine XS.iadd X0.here hx rfl (hb hby d2_161) rfl ?_
          show Steps p.tables e below (T0.setTop (mkF m 162 #[.val (.ref a1), .val (.int p2), .val (.int p3), .val (.int xx), .val (.int (4 : Int32)), .val (.int lo), .val (.int hi), .val (.int (2 : Int32)), .val (.int (c1 &&& (255 : Int32)))] [(.int (p2 + (2 : Int32)))])) _
          refine XS.iloadN X0.here hx rfl (hb hby d2_162) rfl ?_
          exact k
        by_cases hc163_10 : (p2 + (2 : Int32)) < p3
        · have i_hc163_10 : (p2 + (2 : Int32)).toInt < p3.toInt := (Int32.lt_iff_toInt_lt).mp hc163_10
          have pre11 : ∀ t, Steps p.tables e below (T0.setTop (mkF m 197 #[.val (.ref a1), .val (.int p2), .val (.int p3), .val (.int xx), .val (.int (4 : Int32)), .val (.int lo), .val (.int hi), .val (.int (2 : Int32)), .val (.int (c2 &&& (255 : Int32)))] [(.int (128 : Int32)), (.int (c2 &&& (255 : Int32)))])) t → Steps p.tables e below (T0.setTop (mkF m 151 #[.val (.ref a1), .val (.int p2), .val (.int p3), .val (.int xx), .val (.int (4 : Int32)), .val (.int lo), .val (.int hi), .val (.int (1 : Int32)), .unset] [])) t := by
            intro t k
            refine pre9 t ?_
            show Steps p.tables e below (T0.setTop (mkF m 163 #[.val (.ref a1), .val (.int p2), .val (.int p3), .val (.int xx), .val (.int (4 : Int32)), .val (.int lo), .val (.int hi), .val (.int (2 : Int32)), .val (.int (c1 &&& (255 : Int32)))] [(.int p3), (.int (p2 + (2 : Int32)))])) _
            refine XS.icmpYes X0.here hx rfl (pc0 := 163) (pc' := 169) rfl (hb hby d2_163) rfl (tlt hc163_10).1 (by decide) (by decide) ?_
            refine XS.aloadN X0.here hx rfl (hb hby d2_169) rfl rfl ?_
            refine XS.iloadN X0.here hx rfl (hb hby d2_170) rfl ?_
            refine XS.iload X0.here hx rfl (hb hby d2_171) rfl ?_
            show Steps p.tables e below (T0.setTop (mkF m 173 #[.val (.ref a1), .val (.int p2), .val (.int p3), .val (.int xx), .val (.int (4 : Int32)), .val (.int lo), .val (.int hi), .val (.int (2 : Int32)), .val (.int (c1 &&& (255 : Int32)))] [(.int (2 : Int32)), (.int p2), (.ref a1)])) _
            refine XS.iadd X0.here hx rfl (hb hby d2_173) rfl ?_
            show Steps p.tables e below (T0.setTop (mkF m 174 #[.val (.ref a1), .val (.int p2), .val (.int p3), .val (.int xx), .val (.int (4 : Int32)), .val (.int lo), .val (.int hi), .val (.int (2 : Int32)), .val (.int (c1 &&& (255 : Int32)))] [(.int (p2 + (2 : Int32))), (.ref a1)])) _
            refine X0.baloadBytes hx (j := (p2 + (2 : Int32))) (v := (.int c2)) (by rw [e0]; exact Ar.1) (State.isArrayOf_alike hZ.alike Ar.2.1) Ar.2.2 hin2 hat2 (g := (mkF m 174 #[.val (.ref a1), .val (.int p2), .val (.int p3), .val (.int xx), .val (.int (4 : Int32)), .val (.int lo), .val (.int hi), .val (.int (2 : Int32)), .val (.int (c1 &&& (255 : Int32)))] [(.int (p2 + (2 : Int32))), (.ref a1)])) rfl rfl (hb hby d2_174) _ ?_
            refine XS.sipush X0.here hx rfl (hb hby d2_175) ?_
            refine XS.iand X0.here hx rfl (hb hby d2_178) rfl ?_
            refine XS.istore X0.here hx rfl (hb hby d2_179) rfl (l' := #[.val (.ref a1), .val (.int p2), .val (.int p3), .val (.int xx), .val (.int (4 : Int32)), .val (.int lo), .val (.int hi), .val (.int (2 : Int32)), .val (.int (c2 &&& (255 : Int32)))]) rfl ?_
            show Steps p.tables e below (T0.setTop (mkF m 181 #[.val (.ref a1), .val (.int p2), .val (.int p3), .val (.int xx), .val (.int (4 : Int32)), .val (.int lo), .val (.int hi), .val (.int (2 : Int32)), .val (.int (c2 &&& (255 : Int32)))] [])) _
            refine XS.iload X0.here hx rfl (hb hby d2_181) rfl ?_
            refine XS.iload X0.here hx rfl (hb hby d2_183) rfl ?_
            refine XS.iconst X0.here hx rfl (hb hby d2_185) ?_
            show Steps p.tables e below (T0.setTop (mkF m 186 #[.val (.ref a1), .val (.int p2), .val (.int p3), .val (.int xx), .val (.int (4 : Int32)), .val (.int lo), .val (.int hi), .val (.int (2 : Int32)), .val (.int (c2 &&& (255 : Int32)))] [(.int (1 : Int32)), (.int (2 : Int32)), (.int (c2 &&& (255 : Int32)))])) _
            refine XS.icmpYes X0.here hx rfl (pc0 := 186) (pc' := 194) rfl (hb hby d2_186) rfl (feq (by decide : ¬ ((2 : Int32) = (1 : Int32)))).2 (by decide) (by decide) ?_
            refine XS.sipush X0.here hx rfl (hb hby d2_194) ?_
            exact k
          by_cases hc197_12 : (c2 &&& (255 : Int32)) < (128 : Int32)
          · have i_hc197_12 : (c2 &&& (255 : Int32)).toInt < (128 : Int32).toInt := (Int32.lt_iff_toInt_lt).mp hc197_12
            have pre13 : ∀ t, Steps p.tables e below (T0.setTop (mkF m 223 #[.val (.ref a1), .val (.int p2), .val (.int p3), .val (.int xx), .val (.int (4 : Int32)), .val (.int lo), .val (.int hi), .val (.int (2 : Int32)), .val (.int (c2 &&& (255 : Int32)))] [(.int (-3 : Int32))])) t → Steps p.tables e below (T0.setTop (mkF m 151 #[.val (.ref a1), .val (.int p2), .val (.int p3), .val (.int xx), .val (.int (4 : Int32)), .val (.int lo), .val (.int hi), .val (.int (1 : Int32)), .unset] [])) t := by
              intro t k
              refine pre11 t ?_
              show Steps p.tables e below (T0.setTop (mkF m 197 #[.val (.ref a1), .val (.int p2), .val (.int p3), .val (.int xx), .val (.int (4 : Int32)), .val (.int lo), .val (.int hi), .val (.int (2 : Int32)), .val (.int (c2 &&& (255 : Int32)))] [(.int (128 : Int32)), (.int (c2 &&& (255 : Int32)))])) _
              refine XS.icmpYes X0.here hx rfl (pc0 := 197) (pc' := 219) rfl (hb hby d2_197) rfl (tlt hc197_12).1 (by decide) (by decide) ?_
              refine XS.iconst X0.here hx rfl (hb hby d2_219) ?_
              refine XS.iload X0.here hx rfl (hb hby d2_220) rfl ?_
              show Steps p.tables e below (T0.setTop (mkF m 222 #[.val (.ref a1), .val (.int p2), .val (.int p3), .val (.int xx), .val (.int (4 : Int32)), .val (.int lo), .val (.int hi), .val (.int (2 : Int32)), .val (.int (c2 &&& (255 : Int32)))] [(.int (2 : Int32)), (.int (-1 : Int32))])) _
              refine XS.isub X0.here hx rfl (hb hby d2_222) rfl ?_
              exact k
            have eT : own_T 4 (c1 &&& (255 : Int32)).toInt (c2 &&& (255 : Int32)).toInt (c3 &&& (255 : Int32)).toInt (p3.toInt - p2.toInt - 1) lo.toInt hi.toInt = (-3 : Int32) := (lf2_13 ((c0 &&& (255 : Int32)).toInt) ((c1 &&& (255 : Int32)).toInt) ((c2 &&& (255 : Int32)).toInt) ((c3 &&& (255 : Int32)).toInt) ((p2 + (1 : Int32)).toInt) ((p2 + (2 : Int32)).toInt) ((p2 + (3 : Int32)).toInt) (p2.toInt) (p3.toInt) (lo.toInt) (hi.toInt) ho1 ho2 ho3 i_hc163_2 i_hc197_4 i_hc216_7 i_hc163_10 i_hc197_12)
            refine ⟨223, #[.val (.ref a1), .val (.int p2), .val (.int p3), .val (.int xx), .val (.int (4 : Int32)), .val (.int lo), .val (.int hi), .val (.int (2 : Int32)), .val (.int (c2 &&& (255 : Int32)))], hb hby d2_223, fun t k => pre13 t ?_⟩
            rw [eT] at k
            exact k
          · have i_hc197_12 : ¬ ((c2 &&& (255 : Int32)).toInt < (128 : Int32).toInt) := fun q => hc197_12 ((Int32.lt_iff_toInt_lt).mpr q)
            have pre14 : ∀ t, Steps p.tables e below (T0.setTop (mkF m 216 #[.val (.ref a1), .val (.int p2), .val (.int p3), .val (.int xx), .val (.int (4 : Int32)), .val (.int lo), .val (.int hi), .val (.int (2 : Int32)), .val (.int (c2 &&& (255 : Int32)))] [(.int (191 : Int32)), (.int (c2 &&& (255 : Int32)))])) t → Steps p.tables e below (T0.setTop (mkF m 151 #[.val (.ref a1), .val (.int p2), .val (.int p3), .val (.int xx), .val (.int (4 : Int32)), .val (.int lo), .val (.int hi), .val (.int (1 : Int32)), .unset] [])) t := by
              intro t k
              refine pre11 t ?_
              show Steps p.tables e below (T0.setTop (mkF m 197 #[.val (.ref a1), .val (.int p2), .val (.int p3), .val (.int xx), .val (.int (4 : Int32)), .val (.int lo), .val (.int hi), .val (.int (2 : Int32)), .val (.int (c2 &&& (255 : Int32)))] [(.int (128 : Int32)), (.int (c2 &&& (255 : Int32)))])) _
              refine XS.icmpNo X0.here hx rfl (hb hby d2_197) rfl (flt hc197_12).1 ?_
              refine XS.iload X0.here hx rfl (hb hby d2_200) rfl ?_
              refine XS.iload X0.here hx rfl (hb hby d2_202) rfl ?_
              refine XS.iconst X0.here hx rfl (hb hby d2_204) ?_
              show Steps p.tables e below (T0.setTop (mkF m 205 #[.val (.ref a1), .val (.int p2), .val (.int p3), .val (.int xx), .val (.int (4 : Int32)), .val (.int lo), .val (.int hi), .val (.int (2 : Int32)), .val (.int (c2 &&& (255 : Int32)))] [(.int (1 : Int32)), (.int (2 : Int32)), (.int (c2 &&& (255 : Int32)))])) _
              refine XS.icmpYes X0.here hx rfl (pc0 := 205) (pc' := 213) rfl (hb hby d2_205) rfl (feq (by decide : ¬ ((2 : Int32) = (1 : Int32)))).2 (by decide) (by decide) ?_
              refine XS.sipush X0.here hx rfl (hb hby d2_213) ?_
              exact k
            by_cases hc216_15 : (191 : Int32) < (c2 &&& (255 : Int32))
            · have i_hc216_15 : (191 : Int32).toInt < (c2 &&& (255 : Int32)).toInt := (Int32.lt_iff_toInt_lt).mp hc216_15
              have pre16 : ∀ t, Steps p.tables e below (T0.setTop (mkF m 223 #[.val (.ref a1), .val (.int p2), .val (.int p3), .val (.int xx), .val (.int (4 : Int32)), .val (.int lo), .val (.int hi), .val (.int (2 : Int32)), .val (.int (c2 &&& (255 : Int32)))] [(.int (-3 : Int32))])) t → Steps p.tables e below (T0.setTop (mkF m 151 #[.val (.ref a1), .val (.int p2), .val (.int p3), .val (.int xx), .val (.int (4 : Int32)), .val (.int lo), .val (.int hi), .val (.int (1 : Int32)), .unset] [])) t := by
                intro t k
                refine pre14 t ?_
                show Steps p.tables e below (T0.setTop (mkF m 216 #[.val (.ref a1), .val (.int p2), .val (.int p3), .val (.int xx), .val (.int (4 : Int32)), .val (.int lo), .val (.int hi), .val (.int (2 : Int32)), .val (.int (c2 &&& (255 : Int32)))] [(.int (191 : Int32)), (.int (c2 &&& (255 : Int32)))])) _
                refine XS.icmpNo X0.here hx rfl (hb hby d2_216) rfl (tlt hc216_15).2.2.2 ?_
                refine XS.iconst X0.here hx rfl (hb hby d2_219) ?_
                refine XS.iload X0.here hx rfl (hb hby d2_220) rfl ?_
                show Steps p.tables e below (T0.setTop (mkF m 222 #[.val (.ref a1), .val (.int p2), .val (.int p3), .val (.int xx), .val (.int (4 : Int32)), .val (.int lo), .val (.int hi), .val (.int (2 : Int32)), .val (.int (c2 &&& (255 : Int32)))] [(.int (2 : Int32)), (.int (-1 : Int32))])) _
                refine XS.isub X0.here hx rfl (hb hby d2_222) rfl ?_
                exact k
              have eT : own_T 4 (c1 &&& (255 : Int32)).toInt (c2 &&& (255 : Int32)).toInt (c3 &&& (255 : Int32)).toInt (p3.toInt - p2.toInt - 1) lo.toInt hi.toInt = (-3 : Int32) := (lf2_14 ((c0 &&& (255 : Int32)).toInt) ((c1 &&& (255 : Int32)).toInt) ((c2 &&& (255 : Int32)).toInt) ((c3 &&& (255 : Int32)).toInt) ((p2 + (1 : Int32)).toInt) ((p2 + (2 : Int32)).toInt) ((p2 + (3 : Int32)).toInt) (p2.toInt) (p3.toInt) (lo.toInt) (hi.toInt) ho1 ho2 ho3 i_hc163_2 i_hc197_4 i_hc216_7 i_hc163_10 i_hc197_12 i_hc216_15)
              refine ⟨223, #[.val (.ref a1), .val (.int p2), .val (.int p3), .val (.int xx), .val (.int (4 : Int32)), .val (.int lo), .val (.int hi), .val (.int (2 : Int32)), .val (.int (c2 &&& (255 : Int32)))], hb hby d2_223, fun t k => pre16 t ?_⟩
              rw [eT] at k
              exact k
            · have i_hc216_15 : ¬ ((191 : Int32).toInt < (c2 &&& (255 : Int32)).toInt) := fun q => hc216_15 ((Int32.lt_iff_toInt_lt).mpr q)
              have pre17 : ∀ t, Steps p.tables e below (T0.setTop (mkF m 163 #[.val (.ref a1), .val (.int p2), .val (.int p3), .val (.int xx), .val (.int (4 : Int32)), .val (.int lo), .val (.int hi), .val (.int (3 : Int32)), .val (.int (c2 &&& (255 : Int32)))] [(.int p3), (.int (p2 + (3 : Int32)))])) t → Steps p.tables e below (T0.setTop (mkF m 151 #[.val (.ref a1), .val (.int p2), .val (.int p3), .val (.int xx), .val (.int (4 : Int32)), .val (.int lo), .val (.int hi), .val (.int (1 : Int32)), .unset] [])) t := by
                intro t k
                refine pre14 t ?_
                show Steps p.tables e below (T0.setTop (mkF m 216 #[.val (.ref a1), .val (.int p2), .val (.int p3), .val (.int xx), .val (.int (4 : Int32)), .val (.int lo), .val (.int hi), .val (.int (2 : Int32)), .val (.int (c2 &&& (255 : Int32)))] [(.int (191 : Int32)), (.int (c2 &&& (255 : Int32)))])) _
                refine XS.icmpYes X0.here hx rfl (pc0 := 216) (pc' := 224) rfl (hb hby d2_216) rfl (flt hc216_15).2.2.2 (by decide) (by decide) ?_
                show Steps p.tables e below (T0.setTop (mkF m 224 #[.val (.ref a1), .val (.int p2), .val (.int p3), .val (.int xx), .val (.int (4 : Int32)), .val (.int lo), .val (.int hi), .val (.int (2 : Int32)), .val (.int (c2 &&& (255 : Int32)))] [])) _
                refine XS.iinc X0.here hx rfl (hb hby d2_224) rfl (l' := #[.val (.ref a1), .val (.int p2), .val (.int p3), .val (.int xx), .val (.int (4 : Int32)), .val (.int lo), .val (.int hi), .val (.int (3 : Int32)), .val (.int (c2 &&& (255 : Int32)))]) rfl ?_
                refine XS.goto X0.here hx rfl (pc0 := 227) (pc' := 151) rfl (hb hby d2_227) (by decide) (by decide) ?_
                refine XS.iload X0.here hx rfl (hb hby d2_151) rfl ?_
                refine XS.iload X0.here hx rfl (hb hby d2_153) rfl ?_
                show Steps p.tables e below (T0.setTop (mkF m 155 #[.val (.ref a1), .val (.int p2), .val (.int p3), .val (.int xx), .val (.int (4 : Int32)), .val (.int lo), .val (.int hi), .val (.int (3 : Int32)), .val (.int (c2 &&& (255 : Int32)))] [(.int (4 : Int32)), (.int (3 : Int32))])) _
                refine XS.icmpNo X0.here hx rfl (hb hby d2_155) rfl (tlt (by decide : (3 : Int32) < (4 : Int32))).2.1 ?_
                refine XS.iloadN X0.here hx rfl (hb hby d2_158) rfl ?_
                refine XS.iload X0.here hx rfl (hb hby d2_159) rfl ?_
                refine XS.iadd X0.here hx rfl (hb hby d2_161) rfl ?_
                show Steps p.tables e below (T0.setTop (mkF m 162 #[.val (.ref a1), .val (.int p2), .val (.int p3), .val (.int xx), .val (.int (4 : Int32)), .val (.int lo), .val (.int hi), .val (.int (3 : Int32)), .val (.int (c2 &&& (255 : Int32)))] [(.int (p2 + (3 : Int32)))])) _
                refine XS.iloadN X0.here hx rfl (hb hby d2_162) rfl ?_
                exact k
              by_cases hc163_18 : (p2 + (3 : Int32)) < p3
              · have i_hc163_18 : (p2 + (3 : Int32)).toInt < p3.toInt := (Int32.lt_iff_toInt_lt).mp hc163_18
                have pre19 : ∀ t, Steps p.tables e below (T0.setTop (mkF m 197 #[.val (.ref a1), .val (.int p2), .val (.int p3), .val (.int xx), .val (.int (4 : Int32)), .val (.int lo), .val (.int hi), .val (.int (3 : Int32)), .val (.int (c3 &&& (255 : Int32)))] [(.int (128 : Int32)), (.int (c3 &&& (255 : Int32)))])) t → Steps p.tables e below (T0.setTop (mkF m 151 #[.val (.ref a1), .val (.int p2), .val (.int p3), .val (.int xx), .val (.int (4 : Int32)), .val (.int lo), .val (.int hi), .val (.int (1 : Int32)), .unset] [])) t := by
                  intro t k
                  refine pre17 t ?_
                  show Steps p.tables e below (T0.setTop (mkF m 163 #[.val (.ref a1), .val (.int p2), .val (.int p3), .val (.int xx), .val (.int (4 : Int32)), .val (.int lo), .val (.int hi), .val (.int (3 : Int32)), .val (.int (c2 &&& (255 : Int32)))] [(.int p3), (.int (p2 + (3 : Int32)))])) _
                  refine XS.icmpYes X0.here hx rfl (pc0 := 163) (pc' := 169) rfl (hb hby d2_163) rfl (tlt hc163_18).1 (by decide) (by decide) ?_
                  refine XS.aloadN X0.here hx rfl (hb hby d2_169) rfl rfl ?_
                  refine XS.iloadN X0.here hx rfl (hb hby d2_170) rfl ?_
                  refine XS.iload X0.here hx rfl (hb hby d2_171) rfl ?_
                  show Steps p.tables e below (T0.setTop (mkF m 173 #[.val (.ref a1), .val (.int p2), .val (.int p3), .val (.int xx), .val (.int (4 : Int32)), .val (.int lo), .val (.int hi), .val (.int (3 : Int32)), .val (.int (c2 &&& (255 : Int32)))] [(.int (3 : Int32)), (.int p2), (.ref a1)])) _
                  refine XS.iadd X0.here hx rfl (hb hby d2_173) rfl ?_
                  show Steps p.tables e below (T0.setTop (mkF m 174 #[.val (.ref a1), .val (.int p2), .val (.int p3), .val (.int xx), .val (.int (4 : Int32)), .val (.int lo), .val (.int hi), .val (.int (3 : Int32)), .val (.int (c2 &&& (255 : Int32)))] [(.int (p2 + (3 : Int32))), (.ref a1)])) _
                  refine X0.baloadBytes hx (j := (p2 + (3 : Int32))) (v := (.int c3)) (by rw [e0]; exact Ar.1) (State.isArrayOf_alike hZ.alike Ar.2.1) Ar.2.2 hin3 hat3 (g := (mkF m 174 #[.val (.ref a1), .val (.int p2), .val (.int p3), .val (.int xx), .val (.int (4 : Int32)), .val (.int lo), .val (.int hi), .val (.int (3 : Int32)), .val (.int (c2 &&& (255 : Int32)))] [(.int (p2 + (3 : Int32))), (.ref a1)])) rfl rfl (hb hby d2_174) _ ?_
                  refine XS.sipush X0.here hx rfl (hb hby d2_175) ?_
                  refine XS.iand X0.here hx rfl (hb hby d2_178) rfl ?_
                  refine XS.istore X0.here hx rfl (hb hby d2_179) rfl (l' := #[.val (.ref a1), .val (.int p2), .val (.int p3), .val (.int xx), .val (.int (4 : Int32)), .val (.int lo), .val (.int hi), .val (.int (3 : Int32)), .val (.int (c3 &&& (255 : Int32)))]) rfl ?_
                  show Steps p.tables e below (T0.setTop (mkF m 181 #[.val (.ref a1), .val (.int p2), .val (.int p3), .val (.int xx), .val (.int (4 : Int32)), .val (.int lo), .val (.int hi), .val (.int (3 : Int32)), .val (.int (c3 &&& (255 : Int32)))] [])) _
                  refine XS.iload X0.here hx rfl (hb hby d2_181) rfl ?_
                  refine XS.iload X0.here hx rfl (hb hby d2_183) rfl ?_
                  refine XS.iconst X0.here hx rfl (hb hby d2_185) ?_
                  show Steps p.tables e below (T0.setTop (mkF m 186 #[.val (.ref a1), .val (.int p2), .val (.int p3), .val (.int xx), .val (.int (4 : Int32)), .val (.int lo), .val (.int hi), .val (.int (3 : Int32)), .val (.int (c3 &&& (255 : Int32)))] [(.int (1 : Int32)), (.int (3 : Int32)), (.int (c3 &&& (255 : Int32)))])) _
                  refine XS.icmpYes X0.here hx rfl (pc0 := 186) (pc' := 194) rfl (hb hby d2_186) rfl (feq (by decide : ¬ ((3 : Int32) = (1 : Int32)))).2 (by decide) (by decide) ?_
                  refine XS.sipush X0.here hx rfl (hb hby d2_194) ?_
                  exact k
                by_cases hc197_20 : (c3 &&& (255 : Int32)) < (128 : Int32)
                · have i_hc197_20 : (c3 &&& (255 : Int32)).toInt < (128 : Int32).toInt := (Int32.lt_iff_toInt_lt).mp hc197_20
                  have pre21 : ∀ t, Steps p.tables e below (T0.setTop (mkF m 223 #[.val (.ref a1), .val (.int p2), .val (.int p3), .val (.int xx), .val (.int (4 : Int32)), .val (.int lo), .val (.int hi), .val (.int (3 : Int32)), .val (.int (c3 &&& (255 : Int32)))] [(.int (-4 : Int32))])) t → Steps p.tables e below (T0.setTop (mkF m 151 #[.val (.ref a1), .val (.int p2), .val (.int p3), .val (.int xx), .val (.int (4 : Int32)), .val (.int lo), .val (.int hi), .val (.int (1 : Int32)), .unset] [])) t := by
                    intro t k
                    refine pre19 t ?_
                    show Steps p.tables e below (T0.setTop (mkF m 197 #[.val (.ref a1), .val (.int p2), .val (.int p3), .val (.int xx), .val (.int (4 : Int32)), .val (.int lo), .val (.int hi), .val (.int (3 : Int32)), .val (.int (c3 &&& (255 : Int32)))] [(.int (128 : Int32)), (.int (c3 &&& (255 : Int32)))])) _
                    refine XS.icmpYes X0.here hx rfl (pc0 := 197) (pc' := 219) rfl (hb hby d2_197) rfl (tlt hc197_20).1 (by decide) (by decide) ?_
                    refine XS.iconst X0.here hx rfl (hb hby d2_219) ?_
                    refine XS.iload X0.here hx rfl (hb hby d2_220) rfl ?_
                    show Steps p.tables e below (T0.setTop (mkF m 222 #[.val (.ref a1), .val (.int p2), .val (.int p3), .val (.int xx), .val (.int (4 : Int32)), .val (.int lo), .val (.int hi), .val (.int (3 : Int32)), .val (.int (c3 &&& (255 : Int32)))] [(.int (3 : Int32)), (.int (-1 : Int32))])) _
                    refine XS.isub X0.here hx rfl (hb hby d2_222) rfl ?_
                    exact k
                  have eT : own_T 4 (c1 &&& (255 : Int32)).toInt (c2 &&& (255 : Int32)).toInt (c3 &&& (255 : Int32)).toInt (p3.toInt - p2.toInt - 1) lo.toInt hi.toInt = (-4 : Int32) := (lf2_15 ((c0 &&& (255 : Int32)).toInt) ((c1 &&& (255 : Int32)).toInt) ((c2 &&& (255 : Int32)).toInt) ((c3 &&& (255 : Int32)).toInt) ((p2 + (1 : Int32)).toInt) ((p2 + (2 : Int32)).toInt) ((p2 + (3 : Int32)).toInt) (p2.toInt) (p3.toInt) (lo.toInt) (hi.toInt) ho1 ho2 ho3 i_hc163_2 i_hc197_4 i_hc216_7 i_hc163_10 i_hc197_12 i_hc216_15 i_hc163_18 i_hc197_20)
                  refine ⟨223, #[.val (.ref a1), .val (.int p2), .val (.int p3), .val (.int xx), .val (.int (4 : Int32)), .val (.int lo), .val (.int hi), .val (.int (3 : Int32)), .val (.int (c3 &&& (255 : Int32)))], hb hby d2_223, fun t k => pre21 t ?_⟩
                  rw [eT] at k
                  exact k
                · have i_hc197_20 : ¬ ((c3 &&& (255 : Int32)).toInt < (128 : Int32).toInt) := fun q => hc197_20 ((Int32.lt_iff_toInt_lt).mpr q)
                  have pre22 : ∀ t, Steps p.tables e below (T0.setTop (mkF m 216 #[.val (.ref a1), .val (.int p2), .val (.int p3), .val (.int xx), .val (.int (4 : Int32)), .val (.int lo), .val (.int hi), .val (.int (3 : Int32)), .val (.int (c3 &&& (255 : Int32)))] [(.int (191 : Int32)), (.int (c3 &&& (255 : Int32)))])) t → Steps p.tables e below (T0.setTop (mkF m 151 #[.val (.ref a1), .val (.int p2), .val (.int p3), .val (.int xx), .val (.int (4 : Int32)), .val (.int lo), .val (.int hi), .val (.int (1 : Int32)), .unset] [])) t := by
                    intro t k
                    refine pre19 t ?_
                    show Steps p.tables e below (T0.setTop (mkF m 197 #[.val (.ref a1), .val (.int p2), .val (.int p3), .val (.int xx), .val (.int (4 : Int32)), .val (.int lo), .val (.int hi), .val (.int (3 : Int32)), .val (.int (c3 &&& (255 : Int32)))] [(.int (128 : Int32)), (.int (c3 &&& (255 : Int32)))])) _
                    refine XS.icmpNo X0.here hx rfl (hb hby d2_197) rfl (flt hc197_20).1 ?_
                    refine XS.iload X0.here hx rfl (hb hby d2_200) rfl ?_
                    refine XS.iload X0.here hx rfl (hb hby d2_202) rfl ?_
                    refine XS.iconst X0.here hx rfl (hb hby d2_204) ?_
                    show Steps p.tables e below (T0.setTop (mkF m 205 #[.val (.ref a1), .val (.int p2), .val (.int p3), .val (.int xx), .val (.int (4 : Int32)), .val (.int lo), .val (.int hi), .val (.int (3 : Int32)), .val (.int (c3 &&& (255 : Int32)))] [(.int (1 : Int32)), (.int (3 : Int32)), (.int (c3 &&& (255 : Int32)))])) _
                    refine XS.icmpYes X0.here hx rfl (pc0 := 205) (pc' := 213) rfl (hb hby d2_205) rfl (feq (by decide : ¬ ((3 : Int32) = (1 : Int32)))).2 (by decide) (by decide) ?_
                    refine XS.sipush X0.here hx rfl (hb hby d2_213) ?_
                    exact k
                  by_cases hc216_23 : (191 : Int32) < (c3 &&& (255 : Int32))
                  · have i_hc216_23 : (191 : Int32).toInt < (c3 &&& (255 : Int32)).toInt := (Int32.lt_iff_toInt_lt).mp hc216_23
                    have pre24 : ∀ t, Steps p.tables e below (T0.setTop (mkF m 223 #[.val (.ref a1), .val (.int p2), .val (.int p3), .val (.int xx), .val (.int (4 : Int32)), .val (.int lo), .val (.int hi), .val (.int (3 : Int32)), .val (.int (c3 &&& (255 : Int32)))] [(.int (-4 : Int32))])) t → Steps p.tables e below (T0.setTop (mkF m 151 #[.val (.ref a1), .val (.int p2), .val (.int p3), .val (.int xx), .val (.int (4 : Int32)), .val (.int lo), .val (.int hi), .val (.int (1 : Int32)), .unset] [])) t := by
                      intro t k
                      refine pre22 t ?_
                      show Steps p.tables e below (T0.setTop (mkF m 216 #[.val (.ref a1), .val (.int p2), .val (.int p3), .val (.int xx), .val (.int (4 : Int32)), .val (.int lo), .val (.int hi), .val (.int (3 : Int32)), .val (.int (c3 &&& (255 : Int32)))] [(.int (191 : Int32)), (.int (c3 &&& (255 : Int32)))])) _
                      refine XS.icmpNo X0.here hx rfl (hb hby d2_216) rfl (tlt hc216_23).2.2.2 ?_
                      refine XS.iconst X0.here hx rfl (hb hby d2_219) ?_
                      refine XS.iload X0.here hx rfl (hb hby d2_220) rfl ?_
                      show Steps p.tables e below (T0.setTop (mkF m 222 #[.val (.ref a1), .val (.int p2), .val (.int p3), .val (.int xx), .val (.int (4 : Int32)), .val (.int lo), .val (.int hi), .val (.int (3 : Int32)), .val (.int (c3 &&& (255 : Int32)))] [(.int (3 : Int32)), (.int (-1 : Int32))])) _
                      refine XS.isub X0.here hx rfl (hb hby d2_222) rfl ?_
                      exact k
                    have eT : own_T 4 (c1 &&& (255 : Int32)).toInt (c2 &&& (255 : Int32)).toInt (c3 &&& (255 : Int32)).toInt (p3.toInt - p2.toInt - 1) lo.toInt hi.toInt = (-4 : Int32) := (lf2_16 ((c0 &&& (255 : Int32)).toInt) ((c1 &&& (255 : Int32)).toInt) ((c2 &&& (255 : Int32)).toInt) ((c3 &&& (255 : Int32)).toInt) ((p2 + (1 : Int32)).toInt) ((p2 + (2 : Int32)).toInt) ((p2 + (3 : Int32)).toInt) (p2.toInt) (p3.toInt) (lo.toInt) (hi.toInt) ho1 ho2 ho3 i_hc163_2 i_hc197_4 i_hc216_7 i_hc163_10 i_hc197_12 i_hc216_15 i_hc163_18 i_hc197_20 i_hc216_23)
                    refine ⟨223, #[.val (.ref a1), .val (.int p2), .val (.int p3), .val (.int xx), .val (.int (4 : Int32)), .val (.int lo), .val (.int hi), .val (.int (3 : Int32)), .val (.int (c3 &&& (255 : Int32)))], hb hby d2_223, fun t k => pre24 t ?_⟩
                    rw [eT] at k
                    exact k
                  · have i_hc216_23 : ¬ ((191 : Int32).toInt < (c3 &&& (255 : Int32)).toInt) := fun q => hc216_23 ((Int32.lt_iff_toInt_lt).mpr q)
                    have pre25 : ∀ t, Steps p.tables e below (T0.setTop (mkF m 232 #[.val (.ref a1), .val (.int p2), .val (.int p3), .val (.int xx), .val (.int (4 : Int32)), .val (.int lo), .val (.int hi), .val (.int (4 : Int32)), .val (.int (c3 &&& (255 : Int32)))] [(.int (4 : Int32))])) t → Steps p.tables e below (T0.setTop (mkF m 151 #[.val (.ref a1), .val (.int p2), .val (.int p3), .val (.int xx), .val (.int (4 : Int32)), .val (.int lo), .val (.int hi), .val (.int (1 : Int32)), .unset] [])) t := by
                      intro t k
                      refine pre22 t ?_
                      show Steps p.tables e below (T0.setTop (mkF m 216 #[.val (.ref a1), .val (.int p2), .val (.int p3), .val (.int xx), .val (.int (4 : Int32)), .val (.int lo), .val (.int hi), .val (.int (3 : Int32)), .val (.int (c3 &&& (255 : Int32)))] [(.int (191 : Int32)), (.int (c3 &&& (255 : Int32)))])) _
                      refine XS.icmpYes X0.here hx rfl (pc0 := 216) (pc' := 224) rfl (hb hby d2_216) rfl (flt hc216_23).2.2.2 (by decide) (by decide) ?_
                      show Steps p.tables e below (T0.setTop (mkF m 224 #[.val (.ref a1), .val (.int p2), .val (.int p3), .val (.int xx), .val (.int (4 : Int32)), .val (.int lo), .val (.int hi), .val (.int (3 : Int32)), .val (.int (c3 &&& (255 : Int32)))] [])) _
                      refine XS.iinc X0.here hx rfl (hb hby d2_224) rfl (l' := #[.val (.ref a1), .val (.int p2), .val (.int p3), .val (.int xx), .val (.int (4 : Int32)), .val (.int lo), .val (.int hi), .val (.int (4 : Int32)), .val (.int (c3 &&& (255 : Int32)))]) rfl ?_
                      refine XS.goto X0.here hx rfl (pc0 := 227) (pc' := 151) rfl (hb hby d2_227) (by decide) (by decide) ?_
                      refine XS.iload X0.here hx rfl (hb hby d2_151) rfl ?_
                      refine XS.iload X0.here hx rfl (hb hby d2_153) rfl ?_
                      show Steps p.tables e below (T0.setTop (mkF m 155 #[.val (.ref a1), .val (.int p2), .val (.int p3), .val (.int xx), .val (.int (4 : Int32)), .val (.int lo), .val (.int hi), .val (.int (4 : Int32)), .val (.int (c3 &&& (255 : Int32)))] [(.int (4 : Int32)), (.int (4 : Int32))])) _
                      refine XS.icmpYes X0.here hx rfl (pc0 := 155) (pc' := 230) rfl (hb hby d2_155) rfl (flt (by decide : ¬ ((4 : Int32) < (4 : Int32)))).2.1 (by decide) (by decide) ?_
                      refine XS.iload X0.here hx rfl (hb hby d2_230) rfl ?_
                      exact k
                    have eT : own_T 4 (c1 &&& (255 : Int32)).toInt (c2 &&& (255 : Int32)).toInt (c3 &&& (255 : Int32)).toInt (p3.toInt - p2.toInt - 1) lo.toInt hi.toInt = (4 : Int32) := (lf2_17 ((c0 &&& (255 : Int32)).toInt) ((c1 &&& (255 : Int32)).toInt) ((c2 &&& (255 : Int32)).toInt) ((c3 &&& (255 : Int32)).toInt) ((p2 + (1 : Int32)).toInt) ((p2 + (2 : Int32)).toInt) ((p2 + (3 : Int32)).toInt) (p2.toInt) (p3.toInt) (lo.toInt) (hi.toInt) ho1 ho2 ho3 i_hc163_2 i_hc197_4 i_hc216_7 i_hc163_10 i_hc197_12 i_hc216_15 i_hc163_18 i_hc197_20 i_hc216_23)
                    refine ⟨232, #[.val (.ref a1), .val (.int p2), .val (.int p3), .val (.int xx), .val (.int (4 : Int32)), .val (.int lo), .val (.int hi), .val (.int (4 : Int32)), .val (.int (c3 &&& (255 : Int32)))], hb hby d2_232, fun t k => pre25 t ?_⟩
                    rw [eT] at k
                    exact k
              · have i_hc163_18 : ¬ ((p2 + (3 : Int32)).toInt < p3.toInt) := fun q => hc163_18 ((Int32.lt_iff_toInt_lt).mpr q)
                have pre26 : ∀ t, Steps p.tables e below (T0.setTop (mkF m 168 #[.val (.ref a1), .val (.int p2), .val (.int p3), .val (.int xx), .val (.int (4 : Int32)), .val (.int lo), .val (.int hi), .val (.int (3 : Int32)), .val (.int (c2 &&& (255 : Int32)))] [(.int (-2147483648 : Int32))])) t → Steps p.tables e below (T0.setTop (mkF m 151 #[.val (.ref a1), .val (.int p2), .val (.int p3), .val (.int xx), .val (.int (4 : Int32)), .val (.int lo), .val (.int hi), .val (.int (1 : Int32)), .unset] [])) t := by
                  intro t k
                  refine pre17 t ?_
                  show Steps p.tables e below (T0.setTop (mkF m 163 #[.val (.ref a1), .val (.int p2), .val (.int p3), .val (.int xx), .val (.int (4 : Int32)), .val (.int lo), .val (.int hi), .val (.int (3 : Int32)), .val (.int (c2 &&& (255 : Int32)))] [(.int p3), (.int (p2 + (3 : Int32)))])) _
                  refine XS.icmpNo X0.here hx rfl (hb hby d2_163) rfl (flt hc163_18).1 ?_
                  show Steps p.tables e below (T0.setTop (mkF m 166 #[.val (.ref a1), .val (.int p2), .val (.int p3), .val (.int xx), .val (.int (4 : Int32)), .val (.int lo), .val (.int hi), .val (.int (3 : Int32)), .val (.int (c2 &&& (255 : Int32)))] [])) _
                  refine X0.ldcInt hx hown (mvT hZ (hw _ (List.mem_of_getElem? (i := 10) rfl))) (g := (mkF m 166 #[.val (.ref a1), .val (.int p2), .val (.int p3), .val (.int xx), .val (.int (4 : Int32)), .val (.int lo), .val (.int hi), .val (.int (3 : Int32)), .val (.int (c2 &&& (255 : Int32)))] [])) rfl (hb hby d2_166) _ ?_
                  exact k
                have eT : own_T 4 (c1 &&& (255 : Int32)).toInt (c2 &&& (255 : Int32)).toInt (c3 &&& (255 : Int32)).toInt (p3.toInt - p2.toInt - 1) lo.toInt hi.toInt = (-2147483648 : Int32) := (lf2_18 ((c0 &&& (255 : Int32)).toInt) ((c1 &&& (255 : Int32)).toInt) ((c2 &&& (255 : Int32)).toInt) ((c3 &&& (255 : Int32)).toInt) ((p2 + (1 : Int32)).toInt) ((p2 + (2 : Int32)).toInt) ((p2 + (3 : Int32)).toInt) (p2.toInt) (p3.toInt) (lo.toInt) (hi.toInt) ho1 ho2 ho3 i_hc163_2 i_hc197_4 i_hc216_7 i_hc163_10 i_hc197_12 i_hc216_15 i_hc163_18)
                refine ⟨168, #[.val (.ref a1), .val (.int p2), .val (.int p3), .val (.int xx), .val (.int (4 : Int32)), .val (.int lo), .val (.int hi), .val (.int (3 : Int32)), .val (.int (c2 &&& (255 : Int32)))], hb hby d2_168, fun t k => pre26 t ?_⟩
                rw [eT] at k
                exact k
        · have i_hc163_10 : ¬ ((p2 + (2 : Int32)).toInt < p3.toInt) := fun q => hc163_10 ((Int32.lt_iff_toInt_lt).mpr q)
          have pre27 : ∀ t, Steps p.tables e below (T0.setTop (mkF m 168 #[.val (.ref a1), .val (.int p2), .val (.int p3), .val (.int xx), .val (.int (4 : Int32)), .val (.int lo), .val (.int hi), .val (.int (2 : Int32)), .val (.int (c1 &&& (255 : Int32)))] [(.int (-2147483648 : Int32))])) t → Steps p.tables e below (T0.setTop (mkF m 151 #[.val (.ref a1), .val (.int p2), .val (.int p3), .val (.int xx), .val (.int (4 : Int32)), .val (.int lo), .val (.int hi), .val (.int (1 : Int32)), .unset] [])) t := by
            intro t k
            refine pre9 t ?_
            show Steps p.tables e below (T0.setTop (mkF m 163 #[.val (.ref a1), .val (.int p2), .val (.int p3), .val (.int xx), .val (.int (4 : Int32)), .val (.int lo), .val (.int hi), .val (.int (2 : Int32)), .val (.int (c1 &&& (255 : Int32)))] [(.int p3), (.int (p2 + (2 : Int32)))])) _
            refine XS.icmpNo X0.here hx rfl (hb hby d2_163) rfl (flt hc163_10).1 ?_
            show Steps p.tables e below (T0.setTop (mkF m 166 #[.val (.ref a1), .val (.int p2), .val (.int p3), .val (.int xx), .val (.int (4 : Int32)), .val (.int lo), .val (.int hi), .val (.int (2 : Int32)), .val (.int (c1 &&& (255 : Int32)))] [])) _
            refine X0.ldcInt hx hown (mvT hZ (hw _ (List.mem_of_getElem? (i := 10) rfl))) (g := (mkF m 166 #[.val (.ref a1), .val (.int p2), .val (.int p3), .val (.int xx), .val (.int (4 : Int32)), .val (.int lo), .val (.int hi), .val (.int (2 : Int32)), .val (.int (c1 &&& (255 : Int32)))] [])) rfl (hb hby d2_166) _ ?_
            exact k
          have eT : own_T 4 (c1 &&& (255 : Int32)).toInt (c2 &&& (255 : Int32)).toInt (c3 &&& (255 : Int32)).toInt (p3.toInt - p2.toInt - 1) lo.toInt hi.toInt = (-2147483648 : Int32) := (lf2_19 ((c0 &&& (255 : Int32)).toInt) ((c1 &&& (255 : Int32)).toInt) ((c2 &&& (255 : Int32)).toInt) ((c3 &&& (255 : Int32)).toInt) ((p2 + (1 : Int32)).toInt) ((p2 + (2 : Int32)).toInt) ((p2 + (3 : Int32)).toInt) (p2.toInt) (p3.toInt) (lo.toInt) (hi.toInt) ho1 ho2 ho3 i_hc163_2 i_hc197_4 i_hc216_7 i_hc163_10)
          refine ⟨168, #[.val (.ref a1), .val (.int p2), .val (.int p3), .val (.int xx), .val (.int (4 : Int32)), .val (.int lo), .val (.int hi), .val (.int (2 : Int32)), .val (.int (c1 &&& (255 : Int32)))], hb hby d2_168, fun t k => pre27 t ?_⟩
          rw [eT] at k
          exact k
  · have i_hc163_2 : ¬ ((p2 + (1 : Int32)).toInt < p3.toInt) := fun q => hc163_2 ((Int32.lt_iff_toInt_lt).mpr q)
    have pre28 : ∀ t, Steps p.tables e below (T0.setTop (mkF m 168 #[.val (.ref a1), .val (.int p2), .val (.int p3), .val (.int xx), .val (.int (4 : Int32)), .val (.int lo), .val (.int hi), .val (.int (1 : Int32)), .unset] [(.int (-2147483648 : Int32))])) t → Steps p.tables e below (T0.setTop (mkF m 151 #[.val (.ref a1), .val (.int p2), .val (.int p3), .val (.int xx), .val (.int (4 : Int32)), .val (.int lo), .val (.int hi), .val (.int (1 : Int32)), .unset] [])) t := by
      intro t k
      refine pre1 t ?_
      show Steps p.tables e below (T0.setTop (mkF m 163 #[.val (.ref a1), .val (.int p2), .val (.int p3), .val (.int xx), .val (.int (4 : Int32)), .val (.int lo), .val (.int hi), .val (.int (1 : Int32)), .unset] [(.int p3), (.int (p2 + (1 : Int32)))])) _
      refine XS.icmpNo X0.here hx rfl (hb hby d2_163) rfl (flt hc163_2).1 ?_
      show Steps p.tables e below (T0.setTop (mkF m 166 #[.val (.ref a1), .val (.int p2), .val (.int p3), .val (.int xx), .val (.int (4 : Int32)), .val (.int lo), .val (.int hi), .val (.int (1 : Int32)), .unset] [])) _
      refine X0.ldcInt hx hown (mvT hZ (hw _ (List.mem_of_getElem? (i := 10) rfl))) (g := (mkF m 166 #[.val (.ref a1), .val (.int p2), .val (.int p3), .val (.int xx), .val (.int (4 : Int32)), .val (.int lo), .val (.int hi), .val (.int (1 : Int32)), .unset] [])) rfl (hb hby d2_166) _ ?_
      exact k
    have eT : own_T 4 (c1 &&& (255 : Int32)).toInt (c2 &&& (255 : Int32)).toInt (c3 &&& (255 : Int32)).toInt (p3.toInt - p2.toInt - 1) lo.toInt hi.toInt = (-2147483648 : Int32) := (lf2_20 ((c0 &&& (255 : Int32)).toInt) ((c1 &&& (255 : Int32)).toInt) ((c2 &&& (255 : Int32)).toInt) ((c3 &&& (255 : Int32)).toInt) ((p2 + (1 : Int32)).toInt) ((p2 + (2 : Int32)).toInt) ((p2 + (3 : Int32)).toInt) (p2.toInt) (p3.toInt) (lo.toInt) (hi.toInt) ho1 ho2 ho3 i_hc163_2)
    refine ⟨168, #[.val (.ref a1), .val (.int p2), .val (.int p3), .val (.int xx), .val (.int (4 : Int32)), .val (.int lo), .val (.int hi), .val (.int (1 : Int32)), .unset], hb hby d2_168, fun t k => pre28 t ?_⟩
    rw [eT] at k
    exact k
theorem lf2_21 (x0 x1 x2 x3 o1 o2 o3 oo lm : Int) (h0 : 0 ≤ x0 ∧ x0 < 256) (h1 : 0 ≤ x1 ∧ x1 < 256) (h2 : 0 ≤ x2 ∧ x2 < 256) (h3 : 0 ≤ x3 ∧ x3 < 256) (h4 : o1 = oo + 1) (h5 : o2 = oo + 2) (h6 : o3 = oo + 3) (h7 : x0 < 194) : x0 < 224 := by omega
theorem lf2_22 (x0 x1 x2 x3 o1 o2 o3 oo lm : Int) (h0 : 0 ≤ x0 ∧ x0 < 256) (h1 : 0 ≤ x1 ∧ x1 < 256) (h2 : 0 ≤ x2 ∧ x2 < 256) (h3 : 0 ≤ x3 ∧ x3 < 256) (h4 : o1 = oo + 1) (h5 : o2 = oo + 2) (h6 : o3 = oo + 3) (h7 : x0 < 194) : x0 < 240 := by omega
theorem lf2_23 (x0 x1 x2 x3 o1 o2 o3 oo lm : Int) (h0 : 0 ≤ x0 ∧ x0 < 256) (h1 : 0 ≤ x1 ∧ x1 < 256) (h2 : 0 ≤ x2 ∧ x2 < 256) (h3 : 0 ≤ x3 ∧ x3 < 256) (h4 : o1 = oo + 1) (h5 : o2 = oo + 2) (h6 : o3 = oo + 3) (h7 : x0 < 194) : own_E x0 x1 x2 x3 (lm - oo - 1) = (-1 : Int32) := own_E0 (by omega)
theorem lf2_24 (x0 x1 x2 x3 o1 o2 o3 oo lm : Int) (h0 : 0 ≤ x0 ∧ x0 < 256) (h1 : 0 ≤ x1 ∧ x1 < 256) (h2 : 0 ≤ x2 ∧ x2 < 256) (h3 : 0 ≤ x3 ∧ x3 < 256) (h4 : o1 = oo + 1) (h5 : o2 = oo + 2) (h6 : o3 = oo + 3) (h7 : ¬ (x0 < 194)) (h8 : 223 < x0) : ¬ (x0 < 224) := by omega
theorem lf2_25 (x0 x1 x2 x3 o1 o2 o3 oo lm : Int) (h0 : 0 ≤ x0 ∧ x0 < 256) (h1 : 0 ≤ x1 ∧ x1 < 256) (h2 : 0 ≤ x2 ∧ x2 < 256) (h3 : 0 ≤ x3 ∧ x3 < 256) (h4 : o1 = oo + 1) (h5 : o2 = oo + 2) (h6 : o3 = oo + 3) (h7 : ¬ (x0 < 194)) (h8 : 223 < x0) (h9 : 239 < x0) : ¬ (x0 < 240) := by omega
theorem lf2_26 (x0 x1 x2 x3 o1 o2 o3 oo lm : Int) (h0 : 0 ≤ x0 ∧ x0 < 256) (h1 : 0 ≤ x1 ∧ x1 < 256) (h2 : 0 ≤ x2 ∧ x2 < 256) (h3 : 0 ≤ x3 ∧ x3 < 256) (h4 : o1 = oo + 1) (h5 : o2 = oo + 2) (h6 : o3 = oo + 3) (h7 : ¬ (x0 < 194)) (h8 : 223 < x0) (h9 : 239 < x0) (h10 : 244 < x0) : own_E x0 x1 x2 x3 (lm - oo - 1) = (-1 : Int32) := own_E0 (by omega)
theorem lf2_27 (x0 x1 x2 x3 o1 o2 o3 oo lm : Int) (h0 : 0 ≤ x0 ∧ x0 < 256) (h1 : 0 ≤ x1 ∧ x1 < 256) (h2 : 0 ≤ x2 ∧ x2 < 256) (h3 : 0 ≤ x3 ∧ x3 < 256) (h4 : o1 = oo + 1) (h5 : o2 = oo + 2) (h6 : o3 = oo + 3) (h7 : ¬ (x0 < 194)) (h8 : 223 < x0) (h9 : 239 < x0) (h10 : ¬ (244 < x0)) (h11 : x0 = 240) : ¬ (x0 = 244) := by omega
theorem lf2_28 (x0 x1 x2 x3 o1 o2 o3 oo lm : Int) (h0 : 0 ≤ x0 ∧ x0 < 256) (h1 : 0 ≤ x1 ∧ x1 < 256) (h2 : 0 ≤ x2 ∧ x2 < 256) (h3 : 0 ≤ x3 ∧ x3 < 256) (h4 : o1 = oo + 1) (h5 : o2 = oo + 2) (h6 : o3 = oo + 3) (h7 : ¬ (x0 < 194)) (h8 : 223 < x0) (h9 : 239 < x0) (h10 : ¬ (244 < x0)) (h11 : x0 = 240) : own_E x0 x1 x2 x3 (lm - oo - 1) = own_T 4 x1 x2 x3 (lm - oo - 1) 144 191 := by
  have h0 : ¬ (x0 < 194 ∨ 244 < x0) := by omega
  have e2 : ((x0 = 224 ∧ x1 < 160) ∨ (x0 = 240 ∧ x1 < 144) ∨ x1 < 128 ∨ (x0 = 237 ∧ 159 < x1) ∨ (x0 = 244 ∧ 143 < x1) ∨ 191 < x1) ↔ (x1 < 144 ∨ 191 < x1) := by omega
  have e3 : (x0 < 224) ↔ ((4 : Int) = 2) := by omega
  have e6 : (x0 < 240) ↔ ((4 : Int) = 3) := by omega
  simp only [own_E, own_T, if_neg h0, e2, e3, e6]
theorem lf2_29 (x0 x1 x2 x3 o1 o2 o3 oo lm : Int) (h0 : 0 ≤ x0 ∧ x0 < 256) (h1 : 0 ≤ x1 ∧ x1 < 256) (h2 : 0 ≤ x2 ∧ x2 < 256) (h3 : 0 ≤ x3 ∧ x3 < 256) (h4 : o1 = oo + 1) (h5 : o2 = oo + 2) (h6 : o3 = oo + 3) (h7 : ¬ (x0 < 194)) (h8 : 223 < x0) (h9 : 239 < x0) (h10 : ¬ (244 < x0)) (h11 : ¬ (x0 = 240)) (h12 : x0 = 244) : own_E x0 x1 x2 x3 (lm - oo - 1) = own_T 4 x1 x2 x3 (lm - oo - 1) 128 143 := by
  have h0 : ¬ (x0 < 194 ∨ 244 < x0) := by omega
  have e2 : ((x0 = 224 ∧ x1 < 160) ∨ (x0 = 240 ∧ x1 < 144) ∨ x1 < 128 ∨ (x0 = 237 ∧ 159 < x1) ∨ (x0 = 244 ∧ 143 < x1) ∨ 191 < x1) ↔ (x1 < 128 ∨ 143 < x1) := by omega
  have e3 : (x0 < 224) ↔ ((4 : Int) = 2) := by omega
  have e6 : (x0 < 240) ↔ ((4 : Int) = 3) := by omega
  simp only [own_E, own_T, if_neg h0, e2, e3, e6]
theorem lf2_30 (x0 x1 x2 x3 o1 o2 o3 oo lm : Int) (h0 : 0 ≤ x0 ∧ x0 < 256) (h1 : 0 ≤ x1 ∧ x1 < 256) (h2 : 0 ≤ x2 ∧ x2 < 256) (h3 : 0 ≤ x3 ∧ x3 < 256) (h4 : o1 = oo + 1) (h5 : o2 = oo + 2) (h6 : o3 = oo + 3) (h7 : ¬ (x0 < 194)) (h8 : 223 < x0) (h9 : 239 < x0) (h10 : ¬ (244 < x0)) (h11 : ¬ (x0 = 240)) (h12 : ¬ (x0 = 244)) : own_E x0 x1 x2 x3 (lm - oo - 1) = own_T 4 x1 x2 x3 (lm - oo - 1) 128 191 := by
  have h0 : ¬ (x0 < 194 ∨ 244 < x0) := by omega
  have e2 : ((x0 = 224 ∧ x1 < 160) ∨ (x0 = 240 ∧ x1 < 144) ∨ x1 < 128 ∨ (x0 = 237 ∧ 159 < x1) ∨ (x0 = 244 ∧ 143 < x1) ∨ 191 < x1) ↔ (x1 < 128 ∨ 191 < x1) := by omega
  have e3 : (x0 < 224) ↔ ((4 : Int) = 2) := by omega
  have e6 : (x0 < 240) ↔ ((4 : Int) = 3) := by omega
  simp only [own_E, own_T, if_neg h0, e2, e3, e6]
theorem lf2_31 (x0 x1 x2 x3 o1 o2 o3 oo lm : Int) (h0 : 0 ≤ x0 ∧ x0 < 256) (h1 : 0 ≤ x1 ∧ x1 < 256) (h2 : 0 ≤ x2 ∧ x2 < 256) (h3 : 0 ≤ x3 ∧ x3 < 256) (h4 : o1 = oo + 1) (h5 : o2 = oo + 2) (h6 : o3 = oo + 3) (h7 : ¬ (x0 < 194)) (h8 : 223 < x0) (h9 : ¬ (239 < x0)) (h10 : x0 = 224) : ¬ (x0 = 237) := by omega
theorem lf2_32 (x0 x1 x2 x3 o1 o2 o3 oo lm : Int) (h0 : 0 ≤ x0 ∧ x0 < 256) (h1 : 0 ≤ x1 ∧ x1 < 256) (h2 : 0 ≤ x2 ∧ x2 < 256) (h3 : 0 ≤ x3 ∧ x3 < 256) (h4 : o1 = oo + 1) (h5 : o2 = oo + 2) (h6 : o3 = oo + 3) (h7 : ¬ (x0 < 194)) (h8 : 223 < x0) (h9 : ¬ (239 < x0)) (h10 : x0 = 224) : own_E x0 x1 x2 x3 (lm - oo - 1) = own_T 3 x1 x2 x3 (lm - oo - 1) 160 191 := by
  have h0 : ¬ (x0 < 194 ∨ 244 < x0) := by omega
  have e2 : ((x0 = 224 ∧ x1 < 160) ∨ (x0 = 240 ∧ x1 < 144) ∨ x1 < 128 ∨ (x0 = 237 ∧ 159 < x1) ∨ (x0 = 244 ∧ 143 < x1) ∨ 191 < x1) ↔ (x1 < 160 ∨ 191 < x1) := by omega
  have e3 : (x0 < 224) ↔ ((3 : Int) = 2) := by omega
  have e6 : (x0 < 240) ↔ ((3 : Int) = 3) := by omega
  simp only [own_E, own_T, if_neg h0, e2, e3, e6]
theorem lf2_33 (x0 x1 x2 x3 o1 o2 o3 oo lm : Int) (h0 : 0 ≤ x0 ∧ x0 < 256) (h1 : 0 ≤ x1 ∧ x1 < 256) (h2 : 0 ≤ x2 ∧ x2 < 256) (h3 : 0 ≤ x3 ∧ x3 < 256) (h4 : o1 = oo + 1) (h5 : o2 = oo + 2) (h6 : o3 = oo + 3) (h7 : ¬ (x0 < 194)) (h8 : 223 < x0) (h9 : ¬ (239 < x0)) (h10 : ¬ (x0 = 224)) (h11 : x0 = 237) : own_E x0 x1 x2 x3 (lm - oo - 1) = own_T 3 x1 x2 x3 (lm - oo - 1) 128 159 := by
  have h0 : ¬ (x0 < 194 ∨ 244 < x0) := by omega
  have e2 : ((x0 = 224 ∧ x1 < 160) ∨ (x0 = 240 ∧ x1 < 144) ∨ x1 < 128 ∨ (x0 = 237 ∧ 159 < x1) ∨ (x0 = 244 ∧ 143 < x1) ∨ 191 < x1) ↔ (x1 < 128 ∨ 159 < x1) := by omega
  have e3 : (x0 < 224) ↔ ((3 : Int) = 2) := by omega
  have e6 : (x0 < 240) ↔ ((3 : Int) = 3) := by omega
  simp only [own_E, own_T, if_neg h0, e2, e3, e6]
theorem lf2_34 (x0 x1 x2 x3 o1 o2 o3 oo lm : Int) (h0 : 0 ≤ x0 ∧ x0 < 256) (h1 : 0 ≤ x1 ∧ x1 < 256) (h2 : 0 ≤ x2 ∧ x2 < 256) (h3 : 0 ≤ x3 ∧ x3 < 256) (h4 : o1 = oo + 1) (h5 : o2 = oo + 2) (h6 : o3 = oo + 3) (h7 : ¬ (x0 < 194)) (h8 : 223 < x0) (h9 : ¬ (239 < x0)) (h10 : ¬ (x0 = 224)) (h11 : ¬ (x0 = 237)) : own_E x0 x1 x2 x3 (lm - oo - 1) = own_T 3 x1 x2 x3 (lm - oo - 1) 128 191 := by
  have h0 : ¬ (x0 < 194 ∨ 244 < x0) := by omega
  have e2 : ((x0 = 224 ∧ x1 < 160) ∨ (x0 = 240 ∧ x1 < 144) ∨ x1 < 128 ∨ (x0 = 237 ∧ 159 < x1) ∨ (x0 = 244 ∧ 143 < x1) ∨ 191 < x1) ↔ (x1 < 128 ∨ 191 < x1) := by omega
  have e3 : (x0 < 224) ↔ ((3 : Int) = 2) := by omega
  have e6 : (x0 < 240) ↔ ((3 : Int) = 3) := by omega
  simp only [own_E, own_T, if_neg h0, e2, e3, e6]
theorem lf2_35 (x0 x1 x2 x3 o1 o2 o3 oo lm : Int) (h0 : 0 ≤ x0 ∧ x0 < 256) (h1 : 0 ≤ x1 ∧ x1 < 256) (h2 : 0 ≤ x2 ∧ x2 < 256) (h3 : 0 ≤ x3 ∧ x3 < 256) (h4 : o1 = oo + 1) (h5 : o2 = oo + 2) (h6 : o3 = oo + 3) (h7 : ¬ (x0 < 194)) (h8 : ¬ (223 < x0)) : own_E x0 x1 x2 x3 (lm - oo - 1) = own_T 2 x1 x2 x3 (lm - oo - 1) 128 191 := by
  have h0 : ¬ (x0 < 194 ∨ 244 < x0) := by omega
  have e2 : ((x0 = 224 ∧ x1 < 160) ∨ (x0 = 240 ∧ x1 < 144) ∨ x1 < 128 ∨ (x0 = 237 ∧ 159 < x1) ∨ (x0 = 244 ∧ 143 < x1) ∨ 191 < x1) ↔ (x1 < 128 ∨ 191 < x1) := by omega
  have h3 : x0 < 224 := by omega
  have h4 : (2 : Int) = 2 := rfl
  simp only [own_E, own_T, if_neg h0, e2, if_pos h3, ↓reduceIte]
theorem ef_2 (m : MethodId) (x0 : Addr) (x1 : Int32) (x2 : Int32) : entryFrame m #[(.ref x0), (.int x1), (.int x2)] 9 = mkF m 0 #[.val (.ref x0), .val (.int x1), .val (.int x2), .unset, .unset, .unset, .unset, .unset, .unset] [] := by first | (simp [entryFrame, mkF, argsToLocals, Value.category]; done) | rfl
def Q2 (Z : State) (a1 : Addr) (p2 : Int32) (p3 : Int32) (cl : Cell) (c0 : Int32) (c1 : Int32) (c2 : Int32) (c3 : Int32) (h0 : Heap) (n0 : Nat) (v : Option Value) (h : Heap) (L : List Loc) : Prop := v = some (.int (own_E (c0 &&& 255).toInt (c1 &&& 255).toInt (c2 &&& 255).toInt (c3 &&& 255).toInt (p3.toInt - p2.toInt - 1))) ∧ Fr n0 L ∧ h = h0
set_option maxRecDepth 65536 in
set_option maxHeartbeats 40000000 in
theorem rm2 (l : Launch) (Z : State) (a0 : Array Value) (hw : ∀ d ∈ tables_1, d.before a0 Z = true) (ws : List Jvm.Cond) (a1 : Addr) (p2 : Int32) (p3 : Int32) (cl : Cell) (c0 : Int32) (c1 : Int32) (c2 : Int32) (c3 : Int32) (h0 : Heap) (n0 : Nat) (Z0 : n0 ≤ h0.size) (Ar : Arr Z h0 a1 cl .byte) (hin0 : ¬ (p2 < 0 ∨ cl.slots.size ≤ (p2).toNatClampNeg)) (hat0 : cl.slots[(p2).toNatClampNeg]? = some (.int c0)) (hin1 : ¬ ((p2 + (1 : Int32)) < 0 ∨ cl.slots.size ≤ ((p2 + (1 : Int32))).toNatClampNeg)) (hat1 : cl.slots[((p2 + (1 : Int32))).toNatClampNeg]? = some (.int c1)) (hin2 : ¬ ((p2 + (2 : Int32)) < 0 ∨ cl.slots.size ≤ ((p2 + (2 : Int32))).toNatClampNeg)) (hat2 : cl.slots[((p2 + (2 : Int32))).toNatClampNeg]? = some (.int c2)) (hin3 : ¬ ((p2 + (3 : Int32)) < 0 ∨ cl.slots.size ≤ ((p2 + (3 : Int32))).toNatClampNeg)) (hat3 : cl.slots[((p2 + (3 : Int32))).toNatClampNeg]? = some (.int c3)) (ho1 : ((p2 + (1 : Int32))).toInt = p2.toInt + 1) (ho2 : ((p2 + (2 : Int32))).toInt = p2.toInt + 2) (ho3 : ((p2 + (3 : Int32))).toInt = p2.toInt + 3) :
    MetFree l (⟨"com/example/kindgen/kindgen/runtime/Utf8Cursor", "sequenceLength", "([BII)I"⟩ : MethodName) (head1 (Jvm.Cond.code (⟨"com/example/kindgen/kindgen/runtime/Utf8Cursor", "sequenceLength", "([BII)I"⟩ : MethodName) prog_168_method_19_code 9 (some .int) :: ws) ({ frames := 0, cells := 0, slots := 0, locals := 0 } : Room)) (fun a U => a = #[(.ref a1), (.int p2), (.int p3)] ∧ Z.Warmed39 U.vm ∧ U.heap = h0) (fun _ _ _ _ _ => True) (fun _ U o U' => ∃ v L, o = .returned v ∧ Q2 Z a1 p2 p3 cl c0 c1 c2 c3 h0 n0 v U'.heap L ∧ FrameEnd U o U' L ({ frames := 0, cells := 0, slots := 0, locals := 0 } : Room).cells ({ frames := 0, cells := 0, slots := 0, locals := 0 } : Room).slots) := by
  refine MetFree.of_bodySF (plainFor_of_name pn_2) hisR ?_
  intro p e s m args below meth c s₁ Bd hml0 hP hK
  obtain ⟨rfl, hZ, hh⟩ := hP
  have hx := Bd.exec
  have hby := Bd.bytes
  have hml : c.maxLocals = 9 := hml0
  have hown : s.vm.findClass "com/example/kindgen/kindgen/runtime/Utf8Cursor" = some m.cls := findClass_of_methodNamed Bd.named
  have X0 : Stand p l e ({ frames := 0, cells := 0, slots := 0, locals := 0 } : Room) s m #[(.ref a1), (.int p2), (.int p3)] below meth c s₁ [] 0 0 := Stand.of_body Bd
  have e0 : s₁.heap = h0 := by rw [← hh, Bd.state]; rfl
  have N0 := Fr.nil n0
  have pre0 : ∀ t, Steps p.tables e below (s₁.setTop (mkF m 0 #[.val (.ref a1), .val (.int p2), .val (.int p3), .unset, .unset, .unset, .unset, .unset, .unset] [])) t → Steps p.tables e below (s₁.setTop (entryFrame m #[(.ref a1), (.int p2), (.int p3)] 9)) t := fun t k => castTop (ef_2 m a1 p2 p3) k
  have r0 : 0 ≤ (c0 &&& (255 : Int32)).toInt ∧ (c0 &&& (255 : Int32)).toInt < 256 := by have := c_mask c0 255 8 (by decide) rfl; omega
  have r1 : 0 ≤ (c1 &&& (255 : Int32)).toInt ∧ (c1 &&& (255 : Int32)).toInt < 256 := by have := c_mask c1 255 8 (by decide) rfl; omega
  have r2 : 0 ≤ (c2 &&& (255 : Int32)).toInt ∧ (c2 &&& (255 : Int32)).toInt < 256 := by have := c_mask c2 255 8 (by decide) rfl; omega
  have r3 : 0 ≤ (c3 &&& (255 : Int32)).toInt ∧ (c3 &&& (255 : Int32)).toInt < 256 := by have := c_mask c3 255 8 (by decide) rfl; omega
  have pre1 : ∀ t, Steps p.tables e below (s₁.setTop (mkF m 22 #[.val (.ref a1), .val (.int p2), .val (.int p3), .val (.int (c0 &&& (255 : Int32))), .unset, .val (.int (128 : Int32)), .val (.int (191 : Int32)), .unset, .unset] [(.int (194 : Int32)), (.int (c0 &&& (255 : Int32)))])) t → Steps p.tables e below (s₁.setTop (entryFrame m #[(.ref a1), (.int p2), (.int p3)] 9)) t := by
    intro t k
    refine pre0 t ?_
    show Steps p.tables e below (s₁.setTop (mkF m 0 #[.val (.ref a1), .val (.int p2), .val (.int p3), .unset, .unset, .unset, .unset, .unset, .unset] [])) _
    refine XS.aloadN X0.here hx rfl (hb hby d2_0) rfl rfl ?_
    refine XS.iloadN X0.here hx rfl (hb hby d2_1) rfl ?_
    show Steps p.tables e below (s₁.setTop (mkF m 2 #[.val (.ref a1), .val (.int p2), .val (.int p3), .unset, .unset, .unset, .unset, .unset, .unset] [(.int p2), (.ref a1)])) _
    refine X0.baloadBytes hx (j := p2) (v := (.int c0)) (by rw [e0]; exact Ar.1) (State.isArrayOf_alike hZ.alike Ar.2.1) Ar.2.2 hin0 hat0 (g := (mkF m 2 #[.val (.ref a1), .val (.int p2), .val (.int p3), .unset, .unset, .unset, .unset, .unset, .unset] [(.int p2), (.ref a1)])) rfl rfl (hb hby d2_2) _ ?_
    refine XS.sipush X0.here hx rfl (hb hby d2_3) ?_
    refine XS.iand X0.here hx rfl (hb hby d2_6) rfl ?_
    refine XS.istoreN X0.here hx rfl (hb hby d2_7) rfl (l' := #[.val (.ref a1), .val (.int p2), .val (.int p3), .val (.int (c0 &&& (255 : Int32))), .unset, .unset, .unset, .unset, .unset]) rfl ?_
    show Steps p.tables e below (s₁.setTop (mkF m 8 #[.val (.ref a1), .val (.int p2), .val (.int p3), .val (.int (c0 &&& (255 : Int32))), .unset, .unset, .unset, .unset, .unset] [])) _
    refine XS.sipush X0.here hx rfl (hb hby d2_8) ?_
    refine XS.istore X0.here hx rfl (hb hby d2_11) rfl (l' := #[.val (.ref a1), .val (.int p2), .val (.int p3), .val (.int (c0 &&& (255 : Int32))), .unset, .val (.int (128 : Int32)), .unset, .unset, .unset]) rfl ?_
    refine XS.sipush X0.here hx rfl (hb hby d2_13) ?_
    refine XS.istore X0.here hx rfl (hb hby d2_16) rfl (l' := #[.val (.ref a1), .val (.int p2), .val (.int p3), .val (.int (c0 &&& (255 : Int32))), .unset, .val (.int (128 : Int32)), .val (.int (191 : Int32)), .unset, .unset]) rfl ?_
    show Steps p.tables e below (s₁.setTop (mkF m 18 #[.val (.ref a1), .val (.int p2), .val (.int p3), .val (.int (c0 &&& (255 : Int32))), .unset, .val (.int (128 : Int32)), .val (.int (191 : Int32)), .unset, .unset] [])) _
    refine XS.iloadN X0.here hx rfl (hb hby d2_18) rfl ?_
    refine XS.sipush X0.here hx rfl (hb hby d2_19) ?_
    exact k
  by_cases hc22_2 : (c0 &&& (255 : Int32)) < (194 : Int32)
  · have i_hc22_2 : (c0 &&& (255 : Int32)).toInt < (194 : Int32).toInt := (Int32.lt_iff_toInt_lt).mp hc22_2
    have hd42_3 : (c0 &&& (255 : Int32)) < (224 : Int32) := (Int32.lt_iff_toInt_lt).mpr (lf2_21 ((c0 &&& (255 : Int32)).toInt) ((c1 &&& (255 : Int32)).toInt) ((c2 &&& (255 : Int32)).toInt) ((c3 &&& (255 : Int32)).toInt) ((p2 + (1 : Int32)).toInt) ((p2 + (2 : Int32)).toInt) ((p2 + (3 : Int32)).toInt) (p2.toInt) (p3.toInt) r0 r1 r2 r3 ho1 ho2 ho3 i_hc22_2)
    have hd96_4 : (c0 &&& (255 : Int32)) < (240 : Int32) := (Int32.lt_iff_toInt_lt).mpr (lf2_22 ((c0 &&& (255 : Int32)).toInt) ((c1 &&& (255 : Int32)).toInt) ((c2 &&& (255 : Int32)).toInt) ((c3 &&& (255 : Int32)).toInt) ((p2 + (1 : Int32)).toInt) ((p2 + (2 : Int32)).toInt) ((p2 + (3 : Int32)).toInt) (p2.toInt) (p3.toInt) r0 r1 r2 r3 ho1 ho2 ho3 i_hc22_2)
    obtain ⟨fs, hr, hrun, hended, hW, hsame⟩ := X0.leave (v := some (.int (-1 : Int32))) (fun h => by rw [Bd.returns] at h; cases h)
    refine ⟨_, _, pre1 _ ?_, hrun, hended, _, _, rfl, ?_, ⟨_, rfl⟩, hW, hsame.mono (by decide) (by decide)⟩
    · show Steps p.tables e below (s₁.setTop (mkF m 22 #[.val (.ref a1), .val (.int p2), .val (.int p3), .val (.int (c0 &&& (255 : Int32))), .unset, .val (.int (128 : Int32)), .val (.int (191 : Int32)), .unset, .unset] [(.int (194 : Int32)), (.int (c0 &&& (255 : Int32)))])) _
      refine XS.icmpYes X0.here hx rfl (pc0 := 22) (pc' := 38) rfl (hb hby d2_22) rfl (tlt hc22_2).1 (by decide) (by decide) ?_
      refine XS.iloadN X0.here hx rfl (hb hby d2_38) rfl ?_
      refine XS.sipush X0.here hx rfl (hb hby d2_39) ?_
      show Steps p.tables e below (s₁.setTop (mkF m 42 #[.val (.ref a1), .val (.int p2), .val (.int p3), .val (.int (c0 &&& (255 : Int32))), .unset, .val (.int (128 : Int32)), .val (.int (191 : Int32)), .unset, .unset] [(.int (224 : Int32)), (.int (c0 &&& (255 : Int32)))])) _
      refine XS.icmpYes X0.here hx rfl (pc0 := 42) (pc' := 92) rfl (hb hby d2_42) rfl (tlt hd42_3).1 (by decide) (by decide) ?_
      refine XS.iloadN X0.here hx rfl (hb hby d2_92) rfl ?_
      refine XS.sipush X0.here hx rfl (hb hby d2_93) ?_
      show Steps p.tables e below (s₁.setTop (mkF m 96 #[.val (.ref a1), .val (.int p2), .val (.int p3), .val (.int (c0 &&& (255 : Int32))), .unset, .val (.int (128 : Int32)), .val (.int (191 : Int32)), .unset, .unset] [(.int (240 : Int32)), (.int (c0 &&& (255 : Int32)))])) _
      refine XS.icmpYes X0.here hx rfl (pc0 := 96) (pc' := 146) rfl (hb hby d2_96) rfl (tlt hd96_4).1 (by decide) (by decide) ?_
      refine XS.iconst X0.here hx rfl (hb hby d2_146) ?_
      show Steps p.tables e below (s₁.setTop (mkF m 147 #[.val (.ref a1), .val (.int p2), .val (.int p3), .val (.int (c0 &&& (255 : Int32))), .unset, .val (.int (128 : Int32)), .val (.int (191 : Int32)), .unset, .unset] [(.int (-1 : Int32))])) _
      exact retI X0 hx Bd.returns (hb hby d2_147) hr
    · show Q2 Z a1 p2 p3 cl c0 c1 c2 c3 h0 n0 _ s₁.heap _
      rw [e0]
      exact ⟨congrArg (fun z => some (Value.int z)) (lf2_23 ((c0 &&& (255 : Int32)).toInt) ((c1 &&& (255 : Int32)).toInt) ((c2 &&& (255 : Int32)).toInt) ((c3 &&& (255 : Int32)).toInt) ((p2 + (1 : Int32)).toInt) ((p2 + (2 : Int32)).toInt) ((p2 + (3 : Int32)).toInt) (p2.toInt) (p3.toInt) r0 r1 r2 r3 ho1 ho2 ho3 i_hc22_2).symm, N0, rfl⟩
  · have i_hc22_2 : ¬ ((c0 &&& (255 : Int32)).toInt < (194 : Int32).toInt) := fun q => hc22_2 ((Int32.lt_iff_toInt_lt).mpr q)
    have pre5 : ∀ t, Steps p.tables e below (s₁.setTop (mkF m 29 #[.val (.ref a1), .val (.int p2), .val (.int p3), .val (.int (c0 &&& (255 : Int32))), .unset, .val (.int (128 : Int32)), .val (.int (191 : Int32)), .unset, .unset] [(.int (223 : Int32)), (.int (c0 &&& (255 : Int32)))])) t → Steps p.tables e below (s₁.setTop (entryFrame m #[(.ref a1), (.int p2), (.int p3)] 9)) t := by
      intro t k
      refine pre1 t ?_
      show Steps p.tables e below (s₁.setTop (mkF m 22 #[.val (.ref a1), .val (.int p2), .val (.int p3), .val (.int (c0 &&& (255 : Int32))), .unset, .val (.int (128 : Int32)), .val (.int (191 : Int32)), .unset, .unset] [(.int (194 : Int32)), (.int (c0 &&& (255 : Int32)))])) _
      refine XS.icmpNo X0.here hx rfl (hb hby d2_22) rfl (flt hc22_2).1 ?_
      refine XS.iloadN X0.here hx rfl (hb hby d2_25) rfl ?_
      refine XS.sipush X0.here hx rfl (hb hby d2_26) ?_
      exact k
    by_cases hc29_6 : (223 : Int32) < (c0 &&& (255 : Int32))
    · have i_hc29_6 : (223 : Int32).toInt < (c0 &&& (255 : Int32)).toInt := (Int32.lt_iff_toInt_lt).mp hc29_6
      have hd42_7 : ¬ ((c0 &&& (255 : Int32)) < (224 : Int32)) := fun q => (lf2_24 ((c0 &&& (255 : Int32)).toInt) ((c1 &&& (255 : Int32)).toInt) ((c2 &&& (255 : Int32)).toInt) ((c3 &&& (255 : Int32)).toInt) ((p2 + (1 : Int32)).toInt) ((p2 + (2 : Int32)).toInt) ((p2 + (3 : Int32)).toInt) (p2.toInt) (p3.toInt) r0 r1 r2 r3 ho1 ho2 ho3 i_hc22_2 i_hc29_6) ((Int32.lt_iff_toInt_lt).mp q)
      have pre8 : ∀ t, Steps p.tables e below (s₁.setTop (mkF m 49 #[.val (.ref a1), .val (.int p2), .val (.int p3), .val (.int (c0 &&& (255 : Int32))), .unset, .val (.int (128 : Int32)), .val (.int (191 : Int32)), .unset, .unset] [(.int (239 : Int32)), (.int (c0 &&& (255 : Int32)))])) t → Steps p.tables e below (s₁.setTop (entryFrame m #[(.ref a1), (.int p2), (.int p3)] 9)) t := by
        intro t k
        refine pre5 t ?_
        show Steps p.tables e below (s₁.setTop (mkF m 29 #[.val (.ref a1), .val (.int p2), .val (.int p3), .val (.int (c0 &&& (255 : Int32))), .unset, .val (.int (128 : Int32)), .val (.int (191 : Int32)), .unset, .unset] [(.int (223 : Int32)), (.int (c0 &&& (255 : Int32)))])) _
        refine XS.icmpYes X0.here hx rfl (pc0 := 29) (pc' := 38) rfl (hb hby d2_29) rfl (tlt hc29_6).2.2.1 (by decide) (by decide) ?_
        refine XS.iloadN X0.here hx rfl (hb hby d2_38) rfl ?_
        refine XS.sipush X0.here hx rfl (hb hby d2_39) ?_
        show Steps p.tables e below (s₁.setTop (mkF m 42 #[.val (.ref a1), .val (.int p2), .val (.int p3), .val (.int (c0 &&& (255 : Int32))), .unset, .val (.int (128 : Int32)), .val (.int (191 : Int32)), .unset, .unset] [(.int (224 : Int32)), (.int (c0 &&& (255 : Int32)))])) _
        refine XS.icmpNo X0.here hx rfl (hb hby d2_42) rfl (flt hd42_7).1 ?_
        refine XS.iloadN X0.here hx rfl (hb hby d2_45) rfl ?_
        refine XS.sipush X0.here hx rfl (hb hby d2_46) ?_
        exact k
      by_cases hc49_9 : (239 : Int32) < (c0 &&& (255 : Int32))
      · have i_hc49_9 : (239 : Int32).toInt < (c0 &&& (255 : Int32)).toInt := (Int32.lt_iff_toInt_lt).mp hc49_9
        have hd96_10 : ¬ ((c0 &&& (255 : Int32)) < (240 : Int32)) := fun q => (lf2_25 ((c0 &&& (255 : Int32)).toInt) ((c1 &&& (255 : Int32)).toInt) ((c2 &&& (255 : Int32)).toInt) ((c3 &&& (255 : Int32)).toInt) ((p2 + (1 : Int32)).toInt) ((p2 + (2 : Int32)).toInt) ((p2 + (3 : Int32)).toInt) (p2.toInt) (p3.toInt) r0 r1 r2 r3 ho1 ho2 ho3 i_hc22_2 i_hc29_6 i_hc49_9) ((Int32.lt_iff_toInt_lt).mp q)
        have pre11 : ∀ t, Steps p.tables e below (s₁.setTop (mkF m 103 #[.val (.ref a1), .val (.int p2), .val (.int p3), .val (.int (c0 &&& (255 : Int32))), .unset, .val (.int (128 : Int32)), .val (.int (191 : Int32)), .unset, .unset] [(.int (244 : Int32)), (.int (c0 &&& (255 : Int32)))])) t → Steps p.tables e below (s₁.setTop (entryFrame m #[(.ref a1), (.int p2), (.int p3)] 9)) t := by
          intro t k
          refine pre8 t ?_
          show Steps p.tables e below (s₁.setTop (mkF m 49 #[.val (.ref a1), .val (.int p2), .val (.int p3), .val (.int (c0 &&& (255 : Int32))), .unset, .val (.int (128 : Int32)), .val (.int (191 : Int32)), .unset, .unset] [(.int (239 : Int32)), (.int (c0 &&& (255 : Int32)))])) _
          refine XS.icmpYes X0.here hx rfl (pc0 := 49) (pc' := 92) rfl (hb hby d2_49) rfl (tlt hc49_9).2.2.1 (by decide) (by decide) ?_
          refine XS.iloadN X0.here hx rfl (hb hby d2_92) rfl ?_
          refine XS.sipush X0.here hx rfl (hb hby d2_93) ?_
          show Steps p.tables e below (s₁.setTop (mkF m 96 #[.val (.ref a1), .val (.int p2), .val (.int p3), .val (.int (c0 &&& (255 : Int32))), .unset, .val (.int (128 : Int32)), .val (.int (191 : Int32)), .unset, .unset] [(.int (240 : Int32)), (.int (c0 &&& (255 : Int32)))])) _
          refine XS.icmpNo X0.here hx rfl (hb hby d2_96) rfl (flt hd96_10).1 ?_
          refine XS.iloadN X0.here hx rfl (hb hby d2_99) rfl ?_
          refine XS.sipush X0.here hx rfl (hb hby d2_100) ?_
          exact k
        by_cases hc103_12 : (244 : Int32) < (c0 &&& (255 : Int32))
        · have i_hc103_12 : (244 : Int32).toInt < (c0 &&& (255 : Int32)).toInt := (Int32.lt_iff_toInt_lt).mp hc103_12
          obtain ⟨fs, hr, hrun, hended, hW, hsame⟩ := X0.leave (v := some (.int (-1 : Int32))) (fun h => by rw [Bd.returns] at h; cases h)
          refine ⟨_, _, pre11 _ ?_, hrun, hended, _, _, rfl, ?_, ⟨_, rfl⟩, hW, hsame.mono (by decide) (by decide)⟩
          · show Steps p.tables e below (s₁.setTop (mkF m 103 #[.val (.ref a1), .val (.int p2), .val (.int p3), .val (.int (c0 &&& (255 : Int32))), .unset, .val (.int (128 : Int32)), .val (.int (191 : Int32)), .unset, .unset] [(.int (244 : Int32)), (.int (c0 &&& (255 : Int32)))])) _
            refine XS.icmpYes X0.here hx rfl (pc0 := 103) (pc' := 146) rfl (hb hby d2_103) rfl (tlt hc103_12).2.2.1 (by decide) (by decide) ?_
            refine XS.iconst X0.here hx rfl (hb hby d2_146) ?_
            show Steps p.tables e below (s₁.setTop (mkF m 147 #[.val (.ref a1), .val (.int p2), .val (.int p3), .val (.int (c0 &&& (255 : Int32))), .unset, .val (.int (128 : Int32)), .val (.int (191 : Int32)), .unset, .unset] [(.int (-1 : Int32))])) _
            exact retI X0 hx Bd.returns (hb hby d2_147) hr
          · show Q2 Z a1 p2 p3 cl c0 c1 c2 c3 h0 n0 _ s₁.heap _
            rw [e0]
            exact ⟨congrArg (fun z => some (Value.int z)) (lf2_26 ((c0 &&& (255 : Int32)).toInt) ((c1 &&& (255 : Int32)).toInt) ((c2 &&& (255 : Int32)).toInt) ((c3 &&& (255 : Int32)).toInt) ((p2 + (1 : Int32)).toInt) ((p2 + (2 : Int32)).toInt) ((p2 + (3 : Int32)).toInt) (p2.toInt) (p3.toInt) r0 r1 r2 r3 ho1 ho2 ho3 i_hc22_2 i_hc29_6 i_hc49_9 i_hc103_12).symm, N0, rfl⟩
        · have i_hc103_12 : ¬ ((244 : Int32).toInt < (c0 &&& (255 : Int32)).toInt) := fun q => hc103_12 ((Int32.lt_iff_toInt_lt).mpr q)
          have pre13 : ∀ t, Steps p.tables e below (s₁.setTop (mkF m 113 #[.val (.ref a1), .val (.int p2), .val (.int p3), .val (.int (c0 &&& (255 : Int32))), .val (.int (4 : Int32)), .val (.int (128 : Int32)), .val (.int (191 : Int32)), .unset, .unset] [(.int (240 : Int32)), (.int (c0 &&& (255 : Int32)))])) t → Steps p.tables e below (s₁.setTop (entryFrame m #[(.ref a1), (.int p2), (.int p3)] 9)) t := by
            intro t k
            refine pre11 t ?_
            show Steps p.tables e below (s₁.setTop (mkF m 103 #[.val (.ref a1), .val (.int p2), .val (.int p3), .val (.int (c0 &&& (255 : Int32))), .unset, .val (.int (128 : Int32)), .val (.int (191 : Int32)), .unset, .unset] [(.int (244 : Int32)), (.int (c0 &&& (255 : Int32)))])) _
            refine XS.icmpNo X0.here hx rfl (hb hby d2_103) rfl (flt hc103_12).2.2.1 ?_
            refine XS.iconst X0.here hx rfl (hb hby d2_106) ?_
            refine XS.istore X0.here hx rfl (hb hby d2_107) rfl (l' := #[.val (.ref a1), .val (.int p2), .val (.int p3), .val (.int (c0 &&& (255 : Int32))), .val (.int (4 : Int32)), .val (.int (128 : Int32)), .val (.int (191 : Int32)), .unset, .unset]) rfl ?_
            refine XS.iloadN X0.here hx rfl (hb hby d2_109) rfl ?_
            show Steps p.tables e below (s₁.setTop (mkF m 110 #[.val (.ref a1), .val (.int p2), .val (.int p3), .val (.int (c0 &&& (255 : Int32))), .val (.int (4 : Int32)), .val (.int (128 : Int32)), .val (.int (191 : Int32)), .unset, .unset] [(.int (c0 &&& (255 : Int32)))])) _
            refine XS.sipush X0.here hx rfl (hb hby d2_110) ?_
            exact k
          by_cases hc113_14 : (c0 &&& (255 : Int32)) = (240 : Int32)
          · have i_hc113_14 : (c0 &&& (255 : Int32)).toInt = (240 : Int32).toInt := (Int32.toInt_inj.symm).mp hc113_14
            have hd130_15 : ¬ ((c0 &&& (255 : Int32)) = (244 : Int32)) := fun q => (lf2_27 ((c0 &&& (255 : Int32)).toInt) ((c1 &&& (255 : Int32)).toInt) ((c2 &&& (255 : Int32)).toInt) ((c3 &&& (255 : Int32)).toInt) ((p2 + (1 : Int32)).toInt) ((p2 + (2 : Int32)).toInt) ((p2 + (3 : Int32)).toInt) (p2.toInt) (p3.toInt) r0 r1 r2 r3 ho1 ho2 ho3 i_hc22_2 i_hc29_6 i_hc49_9 i_hc103_12 i_hc113_14) ((Int32.toInt_inj.symm).mp q)
            have pre16 : ∀ t, Steps p.tables e below (s₁.setTop (mkF m 151 #[.val (.ref a1), .val (.int p2), .val (.int p3), .val (.int (c0 &&& (255 : Int32))), .val (.int (4 : Int32)), .val (.int (144 : Int32)), .val (.int (191 : Int32)), .val (.int (1 : Int32)), .unset] [])) t → Steps p.tables e below (s₁.setTop (entryFrame m #[(.ref a1), (.int p2), (.int p3)] 9)) t := by
              intro t k
              refine pre13 t ?_
              show Steps p.tables e below (s₁.setTop (mkF m 113 #[.val (.ref a1), .val (.int p2), .val (.int p3), .val (.int (c0 &&& (255 : Int32))), .val (.int (4 : Int32)), .val (.int (128 : Int32)), .val (.int (191 : Int32)), .unset, .unset] [(.int (240 : Int32)), (.int (c0 &&& (255 : Int32)))])) _
              refine XS.icmpNo X0.here hx rfl (hb hby d2_113) rfl (teq hc113_14).2 ?_
              refine XS.sipush X0.here hx rfl (hb hby d2_116) ?_
              refine XS.goto X0.here hx rfl (pc0 := 119) (pc' := 124) rfl (hb hby d2_119) (by decide) (by decide) ?_
              refine XS.istore X0.here hx rfl (hb hby d2_124) rfl (l' := #[.val (.ref a1), .val (.int p2), .val (.int p3), .val (.int (c0 &&& (255 : Int32))), .val (.int (4 : Int32)), .val (.int (144 : Int32)), .val (.int (191 : Int32)), .unset, .unset]) rfl ?_
              show Steps p.tables e below (s₁.setTop (mkF m 126 #[.val (.ref a1), .val (.int p2), .val (.int p3), .val (.int (c0 &&& (255 : Int32))), .val (.int (4 : Int32)), .val (.int (144 : Int32)), .val (.int (191 : Int32)), .unset, .unset] [])) _
              refine XS.iloadN X0.here hx rfl (hb hby d2_126) rfl ?_
              refine XS.sipush X0.here hx rfl (hb hby d2_127) ?_
              show Steps p.tables e below (s₁.setTop (mkF m 130 #[.val (.ref a1), .val (.int p2), .val (.int p3), .val (.int (c0 &&& (255 : Int32))), .val (.int (4 : Int32)), .val (.int (144 : Int32)), .val (.int (191 : Int32)), .unset, .unset] [(.int (244 : Int32)), (.int (c0 &&& (255 : Int32)))])) _
              refine XS.icmpYes X0.here hx rfl (pc0 := 130) (pc' := 139) rfl (hb hby d2_130) rfl (feq hd130_15).2 (by decide) (by decide) ?_
              refine XS.iload X0.here hx rfl (hb hby d2_139) rfl ?_
              refine XS.istore X0.here hx rfl (hb hby d2_141) rfl (l' := #[.val (.ref a1), .val (.int p2), .val (.int p3), .val (.int (c0 &&& (255 : Int32))), .val (.int (4 : Int32)), .val (.int (144 : Int32)), .val (.int (191 : Int32)), .unset, .unset]) rfl ?_
              refine XS.goto X0.here hx rfl (pc0 := 143) (pc' := 148) rfl (hb hby d2_143) (by decide) (by decide) ?_
              show Steps p.tables e below (s₁.setTop (mkF m 148 #[.val (.ref a1), .val (.int p2), .val (.int p3), .val (.int (c0 &&& (255 : Int32))), .val (.int (4 : Int32)), .val (.int (144 : Int32)), .val (.int (191 : Int32)), .unset, .unset] [])) _
              refine XS.iconst X0.here hx rfl (hb hby d2_148) ?_
              refine XS.istore X0.here hx rfl (hb hby d2_149) rfl (l' := #[.val (.ref a1), .val (.int p2), .val (.int p3), .val (.int (c0 &&& (255 : Int32))), .val (.int (4 : Int32)), .val (.int (144 : Int32)), .val (.int (191 : Int32)), .val (.int (1 : Int32)), .unset]) rfl ?_
              exact k
            obtain ⟨pcr, Lr, dr, str⟩ := segT4 a1 p2 p3 (c0 &&& (255 : Int32)) (144 : Int32) (191 : Int32) cl c0 c1 c2 c3 X0 hx hZ hw hby hml hown e0 Z0 N0 Ar hin0 hat0 hin1 hat1 hin2 hat2 hin3 hat3 ho1 ho2 ho3
            obtain ⟨fs, hr, hrun, hended, hW, hsame⟩ := X0.leave (v := some (.int (own_T 4 (c1 &&& (255 : Int32)).toInt (c2 &&& (255 : Int32)).toInt (c3 &&& (255 : Int32)).toInt (p3.toInt - p2.toInt - 1) (144 : Int32).toInt (191 : Int32).toInt))) (fun h => by rw [Bd.returns] at h; cases h)
            refine ⟨_, _, pre16 _ ?_, hrun, hended, _, _, rfl, ?_, ⟨_, rfl⟩, hW, hsame.mono (by decide) (by decide)⟩
            · refine str _ ?_
              exact retI X0 hx Bd.returns dr hr
            · show Q2 Z a1 p2 p3 cl c0 c1 c2 c3 h0 n0 _ s₁.heap _
              rw [e0]
              exact ⟨congrArg (fun z => some (Value.int z)) (lf2_28 ((c0 &&& (255 : Int32)).toInt) ((c1 &&& (255 : Int32)).toInt) ((c2 &&& (255 : Int32)).toInt) ((c3 &&& (255 : Int32)).toInt) ((p2 + (1 : Int32)).toInt) ((p2 + (2 : Int32)).toInt) ((p2 + (3 : Int32)).toInt) (p2.toInt) (p3.toInt) r0 r1 r2 r3 ho1 ho2 ho3 i_hc22_2 i_hc29_6 i_hc49_9 i_hc103_12 i_hc113_14).symm, N0, rfl⟩
          · have i_hc113_14 : ¬ ((c0 &&& (255 : Int32)).toInt = (240 : Int32).toInt) := fun q => hc113_14 ((Int32.toInt_inj.symm).mpr q)
            have pre18 : ∀ t, Steps p.tables e below (s₁.setTop (mkF m 130 #[.val (.ref a1), .val (.int p2), .val (.int p3), .val (.int (c0 &&& (255 : Int32))), .val (.int (4 : Int32)), .val (.int (128 : Int32)), .val (.int (191 : Int32)), .unset, .unset] [(.int (244 : Int32)), (.int (c0 &&& (255 : Int32)))])) t → Steps p.tables e below (s₁.setTop (entryFrame m #[(.ref a1), (.int p2), (.int p3)] 9)) t := by
              intro t k
              refine pre13 t ?_
              show Steps p.tables e below (s₁.setTop (mkF m 113 #[.val (.ref a1), .val (.int p2), .val (.int p3), .val (.int (c0 &&& (255 : Int32))), .val (.int (4 : Int32)), .val (.int (128 : Int32)), .val (.int (191 : Int32)), .unset, .unset] [(.int (240 : Int32)), (.int (c0 &&& (255 : Int32)))])) _
              refine XS.icmpYes X0.here hx rfl (pc0 := 113) (pc' := 122) rfl (hb hby d2_113) rfl (feq hc113_14).2 (by decide) (by decide) ?_
              refine XS.iload X0.here hx rfl (hb hby d2_122) rfl ?_
              refine XS.istore X0.here hx rfl (hb hby d2_124) rfl (l' := #[.val (.ref a1), .val (.int p2), .val (.int p3), .val (.int (c0 &&& (255 : Int32))), .val (.int (4 : Int32)), .val (.int (128 : Int32)), .val (.int (191 : Int32)), .unset, .unset]) rfl ?_
              refine XS.iloadN X0.here hx rfl (hb hby d2_126) rfl ?_
              show Steps p.tables e below (s₁.setTop (mkF m 127 #[.val (.ref a1), .val (.int p2), .val (.int p3), .val (.int (c0 &&& (255 : Int32))), .val (.int (4 : Int32)), .val (.int (128 : Int32)), .val (.int (191 : Int32)), .unset, .unset] [(.int (c0 &&& (255 : Int32)))])) _
              refine XS.sipush X0.here hx rfl (hb hby d2_127) ?_
              exact k
            by_cases hc130_19 : (c0 &&& (255 : Int32)) = (244 : Int32)
            · have i_hc130_19 : (c0 &&& (255 : Int32)).toInt = (244 : Int32).toInt := (Int32.toInt_inj.symm).mp hc130_19
              have pre20 : ∀ t, Steps p.tables e below (s₁.setTop (mkF m 151 #[.val (.ref a1), .val (.int p2), .val (.int p3), .val (.int (c0 &&& (255 : Int32))), .val (.int (4 : Int32)), .val (.int (128 : Int32)), .val (.int (143 : Int32)), .val (.int (1 : Int32)), .unset] [])) t → Steps p.tables e below (s₁.setTop (entryFrame m #[(.ref a1), (.int p2), (.int p3)] 9)) t := by
                intro t k
                refine pre18 t ?_
                show Steps p.tables e below (s₁.setTop (mkF m 130 #[.val (.ref a1), .val (.int p2), .val (.int p3), .val (.int (c0 &&& (255 : Int32))), .val (.int (4 : Int32)), .val (.int (128 : Int32)), .val (.int (191 : Int32)), .unset, .unset] [(.int (244 : Int32)), (.int (c0 &&& (255 : Int32)))])) _
                refine XS.icmpNo X0.here hx rfl (hb hby d2_130) rfl (teq hc130_19).2 ?_
                refine XS.sipush X0.here hx rfl (hb hby d2_133) ?_
                refine XS.goto X0.here hx rfl (pc0 := 136) (pc' := 141) rfl (hb hby d2_136) (by decide) (by decide) ?_
                refine XS.istore X0.here hx rfl (hb hby d2_141) rfl (l' := #[.val (.ref a1), .val (.int p2), .val (.int p3), .val (.int (c0 &&& (255 : Int32))), .val (.int (4 : Int32)), .val (.int (128 : Int32)), .val (.int (143 : Int32)), .unset, .unset]) rfl ?_
                show Steps p.tables e below (s₁.setTop (mkF m 143 #[.val (.ref a1), .val (.int p2), .val (.int p3), .val (.int (c0 &&& (255 : Int32))), .val (.int (4 : Int32)), .val (.int (128 : Int32)), .val (.int (143 : Int32)), .unset, .unset] [])) _
                refine XS.goto X0.here hx rfl (pc0 := 143) (pc' := 148) rfl (hb hby d2_143) (by decide) (by decide) ?_
                refine XS.iconst X0.here hx rfl (hb hby d2_148) ?_
                refine XS.istore X0.here hx rfl (hb hby d2_149) rfl (l' := #[.val (.ref a1), .val (.int p2), .val (.int p3), .val (.int (c0 &&& (255 : Int32))), .val (.int (4 : Int32)), .val (.int (128 : Int32)), .val (.int (143 : Int32)), .val (.int (1 : Int32)), .unset]) rfl ?_
                exact k
              obtain ⟨pcr, Lr, dr, str⟩ := segT4 a1 p2 p3 (c0 &&& (255 : Int32)) (128 : Int32) (143 : Int32) cl c0 c1 c2 c3 X0 hx hZ hw hby hml hown e0 Z0 N0 Ar hin0 hat0 hin1 hat1 hin2 hat2 hin3 hat3 ho1 ho2 ho3
              obtain ⟨fs, hr, hrun, hended, hW, hsame⟩ := X0.leave (v := some (.int (own_T 4 (c1 &&& (255 : Int32)).toInt (c2 &&& (255 : Int32)).toInt (c3 &&& (255 : Int32)).toInt (p3.toInt - p2.toInt - 1) (128 : Int32).toInt (143 : Int32).toInt))) (fun h => by rw [Bd.returns] at h; cases h)
              refine ⟨_, _, pre20 _ ?_, hrun, hended, _, _, rfl, ?_, ⟨_, rfl⟩, hW, hsame.mono (by decide) (by decide)⟩
              · refine str _ ?_
                exact retI X0 hx Bd.returns dr hr
              · show Q2 Z a1 p2 p3 cl c0 c1 c2 c3 h0 n0 _ s₁.heap _
                rw [e0]
                exact ⟨congrArg (fun z => some (Value.int z)) (lf2_29 ((c0 &&& (255 : Int32)).toInt) ((c1 &&& (255 : Int32)).toInt) ((c2 &&& (255 : Int32)).toInt) ((c3 &&& (255 : Int32)).toInt) ((p2 + (1 : Int32)).toInt) ((p2 + (2 : Int32)).toInt) ((p2 + (3 : Int32)).toInt) (p2.toInt) (p3.toInt) r0 r1 r2 r3 ho1 ho2 ho3 i_hc22_2 i_hc29_6 i_hc49_9 i_hc103_12 i_hc113_14 i_hc130_19).symm, N0, rfl⟩
            · have i_hc130_19 : ¬ ((c0 &&& (255 : Int32)).toInt = (244 : Int32).toInt) := fun q => hc130_19 ((Int32.toInt_inj.symm).mpr q)
              have pre22 : ∀ t, Steps p.tables e below (s₁.setTop (mkF m 151 #[.val (.ref a1), .val (.int p2), .val (.int p3), .val (.int (c0 &&& (255 : Int32))), .val (.int (4 : Int32)), .val (.int (128 : Int32)), .val (.int (191 : Int32)), .val (.int (1 : Int32)), .unset] [])) t → Steps p.tables e below (s₁.setTop (entryFrame m #[(.ref a1), (.int p2), (.int p3)] 9)) t := by
                intro t k
                refine pre18 t ?_
                show Steps p.tables e below (s₁.setTop (mkF m 130 #[.val (.ref a1), .val (.int p2), .val (.int p3), .val (.int (c0 &&& (255 : Int32))), .val (.int (4 : Int32)), .val (.int (128 : Int32)), .val (.int (191 : Int32)), .unset, .unset] [(.int (244 : Int32)), (.int (c0 &&& (255 : Int32)))])) _
                refine XS.icmpYes X0.here hx rfl (pc0 := 130) (pc' := 139) rfl (hb hby d2_130) rfl (feq hc130_19).2 (by decide) (by decide) ?_
                refine XS.iload X0.here hx rfl (hb hby d2_139) rfl ?_
                refine XS.istore X0.here hx rfl (hb hby d2_141) rfl (l' := #[.val (.ref a1), .val (.int p2), .val (.int p3), .val (.int (c0 &&& (255 : Int32))), .val (.int (4 : Int32)), .val (.int (128 : Int32)), .val (.int (191 : Int32)), .unset, .unset]) rfl ?_
                refine XS.goto X0.here hx rfl (pc0 := 143) (pc' := 148) rfl (hb hby d2_143) (by decide) (by decide) ?_
                show Steps p.tables e below (s₁.setTop (mkF m 148 #[.val (.ref a1), .val (.int p2), .val (.int p3), .val (.int (c0 &&& (255 : Int32))), .val (.int (4 : Int32)), .val (.int (128 : Int32)), .val (.int (191 : Int32)), .unset, .unset] [])) _
                refine XS.iconst X0.here hx rfl (hb hby d2_148) ?_
                refine XS.istore X0.here hx rfl (hb hby d2_149) rfl (l' := #[.val (.ref a1), .val (.int p2), .val (.int p3), .val (.int (c0 &&& (255 : Int32))), .val (.int (4 : Int32)), .val (.int (128 : Int32)), .val (.int (191 : Int32)), .val (.int (1 : Int32)), .unset]) rfl ?_
                exact k
              obtain ⟨pcr, Lr, dr, str⟩ := segT4 a1 p2 p3 (c0 &&& (255 : Int32)) (128 : Int32) (191 : Int32) cl c0 c1 c2 c3 X0 hx hZ hw hby hml hown e0 Z0 N0 Ar hin0 hat0 hin1 hat1 hin2 hat2 hin3 hat3 ho1 ho2 ho3
              obtain ⟨fs, hr, hrun, hended, hW, hsame⟩ := X0.leave (v := some (.int (own_T 4 (c1 &&& (255 : Int32)).toInt (c2 &&& (255 : Int32)).toInt (c3 &&& (255 : Int32)).toInt (p3.toInt - p2.toInt - 1) (128 : Int32).toInt (191 : Int32).toInt))) (fun h => by rw [Bd.returns] at h; cases h)
              refine ⟨_, _, pre22 _ ?_, hrun, hended, _, _, rfl, ?_, ⟨_, rfl⟩, hW, hsame.mono (by decide) (by decide)⟩
              · refine str _ ?_
                exact retI X0 hx Bd.returns dr hr
              · show Q2 Z a1 p2 p3 cl c0 c1 c2 c3 h0 n0 _ s₁.heap _
                rw [e0]
                exact ⟨congrArg (fun z => some (Value.int z)) (lf2_30 ((c0 &&& (255 : Int32)).toInt) ((c1 &&& (255 : Int32)).toInt) ((c2 &&& (255 : Int32)).toInt) ((c3 &&& (255 : Int32)).toInt) ((p2 + (1 : Int32)).toInt) ((p2 + (2 : Int32)).toInt) ((p2 + (3 : Int32)).toInt) (p2.toInt) (p3.toInt) r0 r1 r2 r3 ho1 ho2 ho3 i_hc22_2 i_hc29_6 i_hc49_9 i_hc103_12 i_hc113_14 i_hc130_19).symm, N0, rfl⟩
      · have i_hc49_9 : ¬ ((239 : Int32).toInt < (c0 &&& (255 : Int32)).toInt) := fun q => hc49_9 ((Int32.lt_iff_toInt_lt).mpr q)
        have pre24 : ∀ t, Steps p.tables e below (s₁.setTop (mkF m 59 #[.val (.ref a1), .val (.int p2), .val (.int p3), .val (.int (c0 &&& (255 : Int32))), .val (.int (3 : Int32)), .val (.int (128 : Int32)), .val (.int (191 : Int32)), .unset, .unset] [(.int (224 : Int32)), (.int (c0 &&& (255 : Int32)))])) t → Steps p.tables e below (s₁.setTop (entryFrame m #[(.ref a1), (.int p2), (.int p3)] 9)) t := by
          intro t k
          refine pre8 t ?_
          show Steps p.tables e below (s₁.setTop (mkF m 49 #[.val (.ref a1), .val (.int p2), .val (.int p3), .val (.int (c0 &&& (255 : Int32))), .unset, .val (.int (128 : Int32)), .val (.int (191 : Int32)), .unset, .unset] [(.int (239 : Int32)), (.int (c0 &&& (255 : Int32)))])) _
          refine XS.icmpNo X0.here hx rfl (hb hby d2_49) rfl (flt hc49_9).2.2.1 ?_
          refine XS.iconst X0.here hx rfl (hb hby d2_52) ?_
          refine XS.istore X0.here hx rfl (hb hby d2_53) rfl (l' := #[.val (.ref a1), .val (.int p2), .val (.int p3), .val (.int (c0 &&& (255 : Int32))), .val (.int (3 : Int32)), .val (.int (128 : Int32)), .val (.int (191 : Int32)), .unset, .unset]) rfl ?_
          refine XS.iloadN X0.here hx rfl (hb hby d2_55) rfl ?_
          show Steps p.tables e below (s₁.setTop (mkF m 56 #[.val (.ref a1), .val (.int p2), .val (.int p3), .val (.int (c0 &&& (255 : Int32))), .val (.int (3 : Int32)), .val (.int (128 : Int32)), .val (.int (191 : Int32)), .unset, .unset] [(.int (c0 &&& (255 : Int32)))])) _
          refine XS.sipush X0.here hx rfl (hb hby d2_56) ?_
          exact k
        by_cases hc59_25 : (c0 &&& (255 : Int32)) = (224 : Int32)
        · have i_hc59_25 : (c0 &&& (255 : Int32)).toInt = (224 : Int32).toInt := (Int32.toInt_inj.symm).mp hc59_25
          have hd76_26 : ¬ ((c0 &&& (255 : Int32)) = (237 : Int32)) := fun q => (lf2_31 ((c0 &&& (255 : Int32)).toInt) ((c1 &&& (255 : Int32)).toInt) ((c2 &&& (255 : Int32)).toInt) ((c3 &&& (255 : Int32)).toInt) ((p2 + (1 : Int32)).toInt) ((p2 + (2 : Int32)).toInt) ((p2 + (3 : Int32)).toInt) (p2.toInt) (p3.toInt) r0 r1 r2 r3 ho1 ho2 ho3 i_hc22_2 i_hc29_6 i_hc49_9 i_hc59_25) ((Int32.toInt_inj.symm).mp q)
          have pre27 : ∀ t, Steps p.tables e below (s₁.setTop (mkF m 151 #[.val (.ref a1), .val (.int p2), .val (.int p3), .val (.int (c0 &&& (255 : Int32))), .val (.int (3 : Int32)), .val (.int (160 : Int32)), .val (.int (191 : Int32)), .val (.int (1 : Int32)), .unset] [])) t → Steps p.tables e below (s₁.setTop (entryFrame m #[(.ref a1), (.int p2), (.int p3)] 9)) t := by
            intro t k
            refine pre24 t ?_
            show Steps p.tables e below (s₁.setTop (mkF m 59 #[.val (.ref a1), .val (.int p2), .val (.int p3), .val (.int (c0 &&& (255 : Int32))), .val (.int (3 : Int32)), .val (.int (128 : Int32)), .val (.int (191 : Int32)), .unset, .unset] [(.int (224 : Int32)), (.int (c0 &&& (255 : Int32)))])) _
            refine XS.icmpNo X0.here hx rfl (hb hby d2_59) rfl (teq hc59_25).2 ?_
            refine XS.sipush X0.here hx rfl (hb hby d2_62) ?_
            refine XS.goto X0.here hx rfl (pc0 := 65) (pc' := 70) rfl (hb hby d2_65) (by decide) (by decide) ?_
            refine XS.istore X0.here hx rfl (hb hby d2_70) rfl (l' := #[.val (.ref a1), .val (.int p2), .val (.int p3), .val (.int (c0 &&& (255 : Int32))), .val (.int (3 : Int32)), .val (.int (160 : Int32)), .val (.int (191 : Int32)), .unset, .unset]) rfl ?_
            show Steps p.tables e below (s₁.setTop (mkF m 72 #[.val (.ref a1), .val (.int p2), .val (.int p3), .val (.int (c0 &&& (255 : Int32))), .val (.int (3 : Int32)), .val (.int (160 : Int32)), .val (.int (191 : Int32)), .unset, .unset] [])) _
            refine XS.iloadN X0.here hx rfl (hb hby d2_72) rfl ?_
            refine XS.sipush X0.here hx rfl (hb hby d2_73) ?_
            show Steps p.tables e below (s₁.setTop (mkF m 76 #[.val (.ref a1), .val (.int p2), .val (.int p3), .val (.int (c0 &&& (255 : Int32))), .val (.int (3 : Int32)), .val (.int (160 : Int32)), .val (.int (191 : Int32)), .unset, .unset] [(.int (237 : Int32)), (.int (c0 &&& (255 : Int32)))])) _
            refine XS.icmpYes X0.here hx rfl (pc0 := 76) (pc' := 85) rfl (hb hby d2_76) rfl (feq hd76_26).2 (by decide) (by decide) ?_
            refine XS.iload X0.here hx rfl (hb hby d2_85) rfl ?_
            refine XS.istore X0.here hx rfl (hb hby d2_87) rfl (l' := #[.val (.ref a1), .val (.int p2), .val (.int p3), .val (.int (c0 &&& (255 : Int32))), .val (.int (3 : Int32)), .val (.int (160 : Int32)), .val (.int (191 : Int32)), .unset, .unset]) rfl ?_
            refine XS.goto X0.here hx rfl (pc0 := 89) (pc' := 148) rfl (hb hby d2_89) (by decide) (by decide) ?_
            show Steps p.tables e below (s₁.setTop (mkF m 148 #[.val (.ref a1), .val (.int p2), .val (.int p3), .val (.int (c0 &&& (255 : Int32))), .val (.int (3 : Int32)), .val (.int (160 : Int32)), .val (.int (191 : Int32)), .unset, .unset] [])) _
            refine XS.iconst X0.here hx rfl (hb hby d2_148) ?_
            refine XS.istore X0.here hx rfl (hb hby d2_149) rfl (l' := #[.val (.ref a1), .val (.int p2), .val (.int p3), .val (.int (c0 &&& (255 : Int32))), .val (.int (3 : Int32)), .val (.int (160 : Int32)), .val (.int (191 : Int32)), .val (.int (1 : Int32)), .unset]) rfl ?_
            exact k
          obtain ⟨pcr, Lr, dr, str⟩ := segT3 a1 p2 p3 (c0 &&& (255 : Int32)) (160 : Int32) (191 : Int32) cl c0 c1 c2 c3 X0 hx hZ hw hby hml hown e0 Z0 N0 Ar hin0 hat0 hin1 hat1 hin2 hat2 hin3 hat3 ho1 ho2 ho3
          obtain ⟨fs, hr, hrun, hended, hW, hsame⟩ := X0.leave (v := some (.int (own_T 3 (c1 &&& (255 : Int32)).toInt (c2 &&& (255 : Int32)).toInt (c3 &&& (255 : Int32)).toInt (p3.toInt - p2.toInt - 1) (160 : Int32).toInt (191 : Int32).toInt))) (fun h => by rw [Bd.returns] at h; cases h)
          refine ⟨_, _, pre27 _ ?_, hrun, hended, _, _, rfl, ?_, ⟨_, rfl⟩, hW, hsame.mono (by decide) (by decide)⟩
          · refine str _ ?_
            exact retI X0 hx Bd.returns dr hr
          · show Q2 Z a1 p2 p3 cl c0 c1 c2 c3 h0 n0 _ s₁.heap _
            rw [e0]
            exact ⟨congrArg (fun z => some (Value.int z)) (lf2_32 ((c0 &&& (255 : Int32)).toInt) ((c1 &&& (255 : Int32)).toInt) ((c2 &&& (255 : Int32)).toInt) ((c3 &&& (255 : Int32)).toInt) ((p2 + (1 : Int32)).toInt) ((p2 + (2 : Int32)).toInt) ((p2 + (3 : Int32)).toInt) (p2.toInt) (p3.toInt) r0 r1 r2 r3 ho1 ho2 ho3 i_hc22_2 i_hc29_6 i_hc49_9 i_hc59_25).symm, N0, rfl⟩
        · have i_hc59_25 : ¬ ((c0 &&& (255 : Int32)).toInt = (224 : Int32).toInt) := fun q => hc59_25 ((Int32.toInt_inj.symm).mpr q)
          have pre29 : ∀ t, Steps p.tables e below (s₁.setTop (mkF m 76 #[.val (.ref a1), .val (.int p2), .val (.int p3), .val (.int (c0 &&& (255 : Int32))), .val (.int (3 : Int32)), .val (.int (128 : Int32)), .val (.int (191 : Int32)), .unset, .unset] [(.int (237 : Int32)), (.int (c0 &&& (255 : Int32)))])) t → Steps p.tables e below (s₁.setTop (entryFrame m #[(.ref a1), (.int p2), (.int p3)] 9)) t := by
            intro t k
            refine pre24 t ?_
            show Steps p.tables e below (s₁.setTop (mkF m 59 #[.val (.ref a1), .val (.int p2), .val (.int p3), .val (.int (c0 &&& (255 : Int32))), .val (.int (3 : Int32)), .val (.int (128 : Int32)), .val (.int (191 : Int32)), .unset, .unset] [(.int (224 : Int32)), (.int (c0 &&& (255 : Int32)))])) _
            refine XS.icmpYes X0.here hx rfl (pc0 := 59) (pc' := 68) rfl (hb hby d2_59) rfl (feq hc59_25).2 (by decide) (by decide) ?_
            refine XS.iload X0.here hx rfl (hb hby d2_68) rfl ?_
            refine XS.istore X0.here hx rfl (hb hby d2_70) rfl (l' := #[.val (.ref a1), .val (.int p2), .val (.int p3), .val (.int (c0 &&& (255 : Int32))), .val (.int (3 : Int32)), .val (.int (128 : Int32)), .val (.int (191 : Int32)), .unset, .unset]) rfl ?_
            refine XS.iloadN X0.here hx rfl (hb hby d2_72) rfl ?_
            show Steps p.tables e below (s₁.setTop (mkF m 73 #[.val (.ref a1), .val (.int p2), .val (.int p3), .val (.int (c0 &&& (255 : Int32))), .val (.int (3 : Int32)), .val (.int (128 : Int32)), .val (.int (191 : Int32)), .unset, .unset] [(.int (c0 &&& (255 : Int32)))])) _
            refine XS.sipush X0.here hx rfl (hb hby d2_73) ?_
            exact k
          by_cases hc76_30 : (c0 &&& (255 : Int32)) = (237 : Int32)
          · have i_hc76_30 : (c0 &&& (255 : Int32)).toInt = (237 : Int32).toInt := (Int32.toInt_inj.symm).mp hc76_30
            have pre31 : ∀ t, Steps p.tables e below (s₁.setTop (mkF m 151 #[.val (.ref a1), .val (.int p2), .val (.int p3), .val (.int (c0 &&& (255 : Int32))), .val (.int (3 : Int32)), .val (.int (128 : Int32)), .val (.int (159 : Int32)), .val (.int (1 : Int32)), .unset] [])) t → Steps p.tables e below (s₁.setTop (entryFrame m #[(.ref a1), (.int p2), (.int p3)] 9)) t := by
              intro t k
              refine pre29 t ?_
              show Steps p.tables e below (s₁.setTop (mkF m 76 #[.val (.ref a1), .val (.int p2), .val (.int p3), .val (.int (c0 &&& (255 : Int32))), .val (.int (3 : Int32)), .val (.int (128 : Int32)), .val (.int (191 : Int32)), .unset, .unset] [(.int (237 : Int32)), (.int (c0 &&& (255 : Int32)))])) _
              refine XS.icmpNo X0.here hx rfl (hb hby d2_76) rfl (teq hc76_30).2 ?_
              refine XS.sipush X0.here hx rfl (hb hby d2_79) ?_
              refine XS.goto X0.here hx rfl (pc0 := 82) (pc' := 87) rfl (hb hby d2_82) (by decide) (by decide) ?_
              refine XS.istore X0.here hx rfl (hb hby d2_87) rfl (l' := #[.val (.ref a1), .val (.int p2), .val (.int p3), .val (.int (c0 &&& (255 : Int32))), .val (.int (3 : Int32)), .val (.int (128 : Int32)), .val (.int (159 : Int32)), .unset, .unset]) rfl ?_
              show Steps p.tables e below (s₁.setTop (mkF m 89 #[.val (.ref a1), .val (.int p2), .val (.int p3), .val (.int (c0 &&& (255 : Int32))), .val (.int (3 : Int32)), .val (.int (128 : Int32)), .val (.int (159 : Int32)), .unset, .unset] [])) _
              refine XS.goto X0.here hx rfl (pc0 := 89) (pc' := 148) rfl (hb hby d2_89) (by decide) (by decide) ?_
              refine XS.iconst X0.here hx rfl (hb hby d2_148) ?_
              refine XS.istore X0.here hx rfl (hb hby d2_149) rfl (l' := #[.val (.ref a1), .val (.int p2), .val (.int p3), .val (.int (c0 &&& (255 : Int32))), .val (.int (3 : Int32)), .val (.int (128 : Int32)), .val (.int (159 : Int32)), .val (.int (1 : Int32)), .unset]) rfl ?_
              exact k
            obtain ⟨pcr, Lr, dr, str⟩ := segT3 a1 p2 p3 (c0 &&& (255 : Int32)) (128 : Int32) (159 : Int32) cl c0 c1 c2 c3 X0 hx hZ hw hby hml hown e0 Z0 N0 Ar hin0 hat0 hin1 hat1 hin2 hat2 hin3 hat3 ho1 ho2 ho3
            obtain ⟨fs, hr, hrun, hended, hW, hsame⟩ := X0.leave (v := some (.int (own_T 3 (c1 &&& (255 : Int32)).toInt (c2 &&& (255 : Int32)).toInt (c3 &&& (255 : Int32)).toInt (p3.toInt - p2.toInt - 1) (128 : Int32).toInt (159 : Int32).toInt))) (fun h => by rw [Bd.returns] at h; cases h)
            refine ⟨_, _, pre31 _ ?_, hrun, hended, _, _, rfl, ?_, ⟨_, rfl⟩, hW, hsame.mono (by decide) (by decide)⟩
            · refine str _ ?_
              exact retI X0 hx Bd.returns dr hr
            · show Q2 Z a1 p2 p3 cl c0 c1 c2 c3 h0 n0 _ s₁.heap _
              rw [e0]
              exact ⟨congrArg (fun z => some (Value.int z)) (lf2_33 ((c0 &&& (255 : Int32)).toInt) ((c1 &&& (255 : Int32)).toInt) ((c2 &&& (255 : Int32)).toInt) ((c3 &&& (255 : Int32)).toInt) ((p2 + (1 : Int32)).toInt) ((p2 + (2 : Int32)).toInt) ((p2 + (3 : Int32)).toInt) (p2.toInt) (p3.toInt) r0 r1 r2 r3 ho1 ho2 ho3 i_hc22_2 i_hc29_6 i_hc49_9 i_hc59_25 i_hc76_30).symm, N0, rfl⟩
          · have i_hc76_30 : ¬ ((c0 &&& (255 : Int32)).toInt = (237 : Int32).toInt) := fun q => hc76_30 ((Int32.toInt_inj.symm).mpr q)
            have pre33 : ∀ t, Steps p.tables e below (s₁.setTop (mkF m 151 #[.val (.ref a1), .val (.int p2), .val (.int p3), .val (.int (c0 &&& (255 : Int32))), .val (.int (3 : Int32)), .val (.int (128 : Int32)), .val (.int (191 : Int32)), .val (.int (1 : Int32)), .unset] [])) t → Steps p.tables e below (s₁.setTop (entryFrame m #[(.ref a1), (.int p2), (.int p3)] 9)) t := by
              intro t k
              refine pre29 t ?_
              show Steps p.tables e below (s₁.setTop (mkF m 76 #[.val (.ref a1), .val (.int p2), .val (.int p3), .val (.int (c0 &&& (255 : Int32))), .val (.int (3 : Int32)), .val (.int (128 : Int32)), .val (.int (191 : Int32)), .unset, .unset] [(.int (237 : Int32)), (.int (c0 &&& (255 : Int32)))])) _
              refine XS.icmpYes X0.here hx rfl (pc0 := 76) (pc' := 85) rfl (hb hby d2_76) rfl (feq hc76_30).2 (by decide) (by decide) ?_
              refine XS.iload X0.here hx rfl (hb hby d2_85) rfl ?_
              refine XS.istore X0.here hx rfl (hb hby d2_87) rfl (l' := #[.val (.ref a1), .val (.int p2), .val (.int p3), .val (.int (c0 &&& (255 : Int32))), .val (.int (3 : Int32)), .val (.int (128 : Int32)), .val (.int (191 : Int32)), .unset, .unset]) rfl ?_
              refine XS.goto X0.here hx rfl (pc0 := 89) (pc' := 148) rfl (hb hby d2_89) (by decide) (by decide) ?_
              show Steps p.tables e below (s₁.setTop (mkF m 148 #[.val (.ref a1), .val (.int p2), .val (.int p3), .val (.int (c0 &&& (255 : Int32))), .val (.int (3 : Int32)), .val (.int (128 : Int32)), .val (.int (191 : Int32)), .unset, .unset] [])) _
              refine XS.iconst X0.here hx rfl (hb hby d2_148) ?_
              refine XS.istore X0.here hx rfl (hb hby d2_149) rfl (l' := #[.val (.ref a1), .val (.int p2), .val (.int p3), .val (.int (c0 &&& (255 : Int32))), .val (.int (3 : Int32)), .val (.int (128 : Int32)), .val (.int (191 : Int32)), .val (.int (1 : Int32)), .unset]) rfl ?_
              exact k
            obtain ⟨pcr, Lr, dr, str⟩ := segT3 a1 p2 p3 (c0 &&& (255 : Int32)) (128 : Int32) (191 : Int32) cl c0 c1 c2 c3 X0 hx hZ hw hby hml hown e0 Z0 N0 Ar hin0 hat0 hin1 hat1 hin2 hat2 hin3 hat3 ho1 ho2 ho3
            obtain ⟨fs, hr, hrun, hended, hW, hsame⟩ := X0.leave (v := some (.int (own_T 3 (c1 &&& (255 : Int32)).toInt (c2 &&& (255 : Int32)).toInt (c3 &&& (255 : Int32)).toInt (p3.toInt - p2.toInt - 1) (128 : Int32).toInt (191 : Int32).toInt))) (fun h => by rw [Bd.returns] at h; cases h)
            refine ⟨_, _, pre33 _ ?_, hrun, hended, _, _, rfl, ?_, ⟨_, rfl⟩, hW, hsame.mono (by decide) (by decide)⟩
            · refine str _ ?_
              exact retI X0 hx Bd.returns dr hr
            · show Q2 Z a1 p2 p3 cl c0 c1 c2 c3 h0 n0 _ s₁.heap _
              rw [e0]
              exact ⟨congrArg (fun z => some (Value.int z)) (lf2_34 ((c0 &&& (255 : Int32)).toInt) ((c1 &&& (255 : Int32)).toInt) ((c2 &&& (255 : Int32)).toInt) ((c3 &&& (255 : Int32)).toInt) ((p2 + (1 : Int32)).toInt) ((p2 + (2 : Int32)).toInt) ((p2 + (3 : Int32)).toInt) (p2.toInt) (p3.toInt) r0 r1 r2 r3 ho1 ho2 ho3 i_hc22_2 i_hc29_6 i_hc49_9 i_hc59_25 i_hc76_30).symm, N0, rfl⟩
    · have i_hc29_6 : ¬ ((223 : Int32).toInt < (c0 &&& (255 : Int32)).toInt) := fun q => hc29_6 ((Int32.lt_iff_toInt_lt).mpr q)
      have pre35 : ∀ t, Steps p.tables e below (s₁.setTop (mkF m 151 #[.val (.ref a1), .val (.int p2), .val (.int p3), .val (.int (c0 &&& (255 : Int32))), .val (.int (2 : Int32)), .val (.int (128 : Int32)), .val (.int (191 : Int32)), .val (.int (1 : Int32)), .unset] [])) t → Steps p.tables e below (s₁.setTop (entryFrame m #[(.ref a1), (.int p2), (.int p3)] 9)) t := by
        intro t k
        refine pre5 t ?_
        show Steps p.tables e below (s₁.setTop (mkF m 29 #[.val (.ref a1), .val (.int p2), .val (.int p3), .val (.int (c0 &&& (255 : Int32))), .unset, .val (.int (128 : Int32)), .val (.int (191 : Int32)), .unset, .unset] [(.int (223 : Int32)), (.int (c0 &&& (255 : Int32)))])) _
        refine XS.icmpNo X0.here hx rfl (hb hby d2_29) rfl (flt hc29_6).2.2.1 ?_
        refine XS.iconst X0.here hx rfl (hb hby d2_32) ?_
        refine XS.istore X0.here hx rfl (hb hby d2_33) rfl (l' := #[.val (.ref a1), .val (.int p2), .val (.int p3), .val (.int (c0 &&& (255 : Int32))), .val (.int (2 : Int32)), .val (.int (128 : Int32)), .val (.int (191 : Int32)), .unset, .unset]) rfl ?_
        refine XS.goto X0.here hx rfl (pc0 := 35) (pc' := 148) rfl (hb hby d2_35) (by decide) (by decide) ?_
        show Steps p.tables e below (s₁.setTop (mkF m 148 #[.val (.ref a1), .val (.int p2), .val (.int p3), .val (.int (c0 &&& (255 : Int32))), .val (.int (2 : Int32)), .val (.int (128 : Int32)), .val (.int (191 : Int32)), .unset, .unset] [])) _
        refine XS.iconst X0.here hx rfl (hb hby d2_148) ?_
        refine XS.istore X0.here hx rfl (hb hby d2_149) rfl (l' := #[.val (.ref a1), .val (.int p2), .val (.int p3), .val (.int (c0 &&& (255 : Int32))), .val (.int (2 : Int32)), .val (.int (128 : Int32)), .val (.int (191 : Int32)), .val (.int (1 : Int32)), .unset]) rfl ?_
        exact k
      obtain ⟨pcr, Lr, dr, str⟩ := segT2 a1 p2 p3 (c0 &&& (255 : Int32)) (128 : Int32) (191 : Int32) cl c0 c1 c2 c3 X0 hx hZ hw hby hml hown e0 Z0 N0 Ar hin0 hat0 hin1 hat1 hin2 hat2 hin3 hat3 ho1 ho2 ho3
      obtain ⟨fs, hr, hrun, hended, hW, hsame⟩ := X0.leave (v := some (.int (own_T 2 (c1 &&& (255 : Int32)).toInt (c2 &&& (255 : Int32)).toInt (c3 &&& (255 : Int32)).toInt (p3.toInt - p2.toInt - 1) (128 : Int32).toInt (191 : Int32).toInt))) (fun h => by rw [Bd.returns] at h; cases h)
      refine ⟨_, _, pre35 _ ?_, hrun, hended, _, _, rfl, ?_, ⟨_, rfl⟩, hW, hsame.mono (by decide) (by decide)⟩
      · refine str _ ?_
        exact retI X0 hx Bd.returns dr hr
      · show Q2 Z a1 p2 p3 cl c0 c1 c2 c3 h0 n0 _ s₁.heap _
        rw [e0]
        exact ⟨congrArg (fun z => some (Value.int z)) (lf2_35 ((c0 &&& (255 : Int32)).toInt) ((c1 &&& (255 : Int32)).toInt) ((c2 &&& (255 : Int32)).toInt) ((c3 &&& (255 : Int32)).toInt) ((p2 + (1 : Int32)).toInt) ((p2 + (2 : Int32)).toInt) ((p2 + (3 : Int32)).toInt) (p2.toInt) (p3.toInt) r0 r1 r2 r3 ho1 ho2 ho3 i_hc22_2 i_hc29_6).symm, N0, rfl⟩
theorem lf0_0 (xx b1 b2 b3 av : Int) (h0 : 0 ≤ xx ∧ xx < 256) (h1 : 0 ≤ b1 ∧ b1 < 256) (h2 : 0 ≤ b2 ∧ b2 < 256) (h3 : 0 ≤ b3 ∧ b3 < 256) (h4 : 0 ≤ av ∧ av < 5) (h5 : 194 ≤ xx) (h6 : xx ≤ 223) (h7 : av < 1) : own_E xx b1 b2 b3 av = (-2147483648 : Int32) := own_E1 (by omega) (by omega)
theorem lf0_1 (xx b1 b2 b3 av : Int) (h0 : 0 ≤ xx ∧ xx < 256) (h1 : 0 ≤ b1 ∧ b1 < 256) (h2 : 0 ≤ b2 ∧ b2 < 256) (h3 : 0 ≤ b3 ∧ b3 < 256) (h4 : 0 ≤ av ∧ av < 5) (h5 : 194 ≤ xx) (h6 : xx ≤ 223) (h7 : ¬ (av < 1)) (h8 : 128 ≤ b1) (h9 : b1 ≤ 191) : own_E xx b1 b2 b3 av = (2 : Int32) := own_E3 (by omega) (by omega) (by omega) (by omega)
theorem lf0_2 (xx b1 b2 b3 av : Int) (h0 : 0 ≤ xx ∧ xx < 256) (h1 : 0 ≤ b1 ∧ b1 < 256) (h2 : 0 ≤ b2 ∧ b2 < 256) (h3 : 0 ≤ b3 ∧ b3 < 256) (h4 : 0 ≤ av ∧ av < 5) (h5 : 194 ≤ xx) (h6 : xx ≤ 223) (h7 : ¬ (av < 1)) (h8 : b1 < 128 ∨ 191 < b1) : own_E xx b1 b2 b3 av = (-2 : Int32) := own_E2 (by omega) (by omega) (by omega)
theorem lf0_3 (xx b1 b2 b3 av : Int) (h0 : 0 ≤ xx ∧ xx < 256) (h1 : 0 ≤ b1 ∧ b1 < 256) (h2 : 0 ≤ b2 ∧ b2 < 256) (h3 : 0 ≤ b3 ∧ b3 < 256) (h4 : 0 ≤ av ∧ av < 5) (h5 : xx < 194 ∨ 223 < xx) (h6 : xx = 224) (h7 : av < 1) : own_E xx b1 b2 b3 av = (-2147483648 : Int32) := own_E1 (by omega) (by omega)
theorem lf0_4 (xx b1 b2 b3 av : Int) (h0 : 0 ≤ xx ∧ xx < 256) (h1 : 0 ≤ b1 ∧ b1 < 256) (h2 : 0 ≤ b2 ∧ b2 < 256) (h3 : 0 ≤ b3 ∧ b3 < 256) (h4 : 0 ≤ av ∧ av < 5) (h5 : xx < 194 ∨ 223 < xx) (h6 : xx = 224) (h7 : ¬ (av < 1)) (h8 : 160 ≤ b1) (h9 : b1 ≤ 191) (h10 : av < 2) : own_E xx b1 b2 b3 av = (-2147483648 : Int32) := own_E4 (by omega) (by omega) (by omega) (by omega) (by omega)
theorem lf0_5 (xx b1 b2 b3 av : Int) (h0 : 0 ≤ xx ∧ xx < 256) (h1 : 0 ≤ b1 ∧ b1 < 256) (h2 : 0 ≤ b2 ∧ b2 < 256) (h3 : 0 ≤ b3 ∧ b3 < 256) (h4 : 0 ≤ av ∧ av < 5) (h5 : xx < 194 ∨ 223 < xx) (h6 : xx = 224) (h7 : ¬ (av < 1)) (h8 : 160 ≤ b1) (h9 : b1 ≤ 191) (h10 : ¬ (av < 2)) (h11 : 128 ≤ b2) (h12 : b2 ≤ 191) : own_E xx b1 b2 b3 av = (3 : Int32) := own_E6 (by omega) (by omega) (by omega) (by omega) (by omega) (by omega) (by omega)
theorem lf0_6 (xx b1 b2 b3 av : Int) (h0 : 0 ≤ xx ∧ xx < 256) (h1 : 0 ≤ b1 ∧ b1 < 256) (h2 : 0 ≤ b2 ∧ b2 < 256) (h3 : 0 ≤ b3 ∧ b3 < 256) (h4 : 0 ≤ av ∧ av < 5) (h5 : xx < 194 ∨ 223 < xx) (h6 : xx = 224) (h7 : ¬ (av < 1)) (h8 : 160 ≤ b1) (h9 : b1 ≤ 191) (h10 : ¬ (av < 2)) (h11 : b2 < 128 ∨ 191 < b2) : own_E xx b1 b2 b3 av = (-3 : Int32) := own_E5 (by omega) (by omega) (by omega) (by omega) (by omega) (by omega)
theorem lf0_7 (xx b1 b2 b3 av : Int) (h0 : 0 ≤ xx ∧ xx < 256) (h1 : 0 ≤ b1 ∧ b1 < 256) (h2 : 0 ≤ b2 ∧ b2 < 256) (h3 : 0 ≤ b3 ∧ b3 < 256) (h4 : 0 ≤ av ∧ av < 5) (h5 : xx < 194 ∨ 223 < xx) (h6 : xx = 224) (h7 : ¬ (av < 1)) (h8 : b1 < 160 ∨ 191 < b1) : own_E xx b1 b2 b3 av = (-2 : Int32) := own_E2 (by omega) (by omega) (by omega)
theorem lf0_8 (xx b1 b2 b3 av : Int) (h0 : 0 ≤ xx ∧ xx < 256) (h1 : 0 ≤ b1 ∧ b1 < 256) (h2 : 0 ≤ b2 ∧ b2 < 256) (h3 : 0 ≤ b3 ∧ b3 < 256) (h4 : 0 ≤ av ∧ av < 5) (h5 : xx < 194 ∨ 223 < xx) (h6 : ¬ (xx = 224)) (h7 : 225 ≤ xx) (h8 : xx ≤ 236) (h9 : av < 1) : own_E xx b1 b2 b3 av = (-2147483648 : Int32) := own_E1 (by omega) (by omega)
theorem lf0_9 (xx b1 b2 b3 av : Int) (h0 : 0 ≤ xx ∧ xx < 256) (h1 : 0 ≤ b1 ∧ b1 < 256) (h2 : 0 ≤ b2 ∧ b2 < 256) (h3 : 0 ≤ b3 ∧ b3 < 256) (h4 : 0 ≤ av ∧ av < 5) (h5 : xx < 194 ∨ 223 < xx) (h6 : ¬ (xx = 224)) (h7 : 225 ≤ xx) (h8 : xx ≤ 236) (h9 : ¬ (av < 1)) (h10 : 128 ≤ b1) (h11 : b1 ≤ 191) (h12 : av < 2) : own_E xx b1 b2 b3 av = (-2147483648 : Int32) := own_E4 (by omega) (by omega) (by omega) (by omega) (by omega)
theorem lf0_10 (xx b1 b2 b3 av : Int) (h0 : 0 ≤ xx ∧ xx < 256) (h1 : 0 ≤ b1 ∧ b1 < 256) (h2 : 0 ≤ b2 ∧ b2 < 256) (h3 : 0 ≤ b3 ∧ b3 < 256) (h4 : 0 ≤ av ∧ av < 5) (h5 : xx < 194 ∨ 223 < xx) (h6 : ¬ (xx = 224)) (h7 : 225 ≤ xx) (h8 : xx ≤ 236) (h9 : ¬ (av < 1)) (h10 : 128 ≤ b1) (h11 : b1 ≤ 191) (h12 : ¬ (av < 2)) (h13 : 128 ≤ b2) (h14 : b2 ≤ 191) : own_E xx b1 b2 b3 av = (3 : Int32) := own_E6 (by omega) (by omega) (by omega) (by omega) (by omega) (by omega) (by omega)
theorem lf0_11 (xx b1 b2 b3 av : Int) (h0 : 0 ≤ xx ∧ xx < 256) (h1 : 0 ≤ b1 ∧ b1 < 256) (h2 : 0 ≤ b2 ∧ b2 < 256) (h3 : 0 ≤ b3 ∧ b3 < 256) (h4 : 0 ≤ av ∧ av < 5) (h5 : xx < 194 ∨ 223 < xx) (h6 : ¬ (xx = 224)) (h7 : 225 ≤ xx) (h8 : xx ≤ 236) (h9 : ¬ (av < 1)) (h10 : 128 ≤ b1) (h11 : b1 ≤ 191) (h12 : ¬ (av < 2)) (h13 : b2 < 128 ∨ 191 < b2) : own_E xx b1 b2 b3 av = (-3 : Int32) := own_E5 (by omega) (by omega) (by omega) (by omega) (by omega) (by omega)
theorem lf0_12 (xx b1 b2 b3 av : Int) (h0 : 0 ≤ xx ∧ xx < 256) (h1 : 0 ≤ b1 ∧ b1 < 256) (h2 : 0 ≤ b2 ∧ b2 < 256) (h3 : 0 ≤ b3 ∧ b3 < 256) (h4 : 0 ≤ av ∧ av < 5) (h5 : xx < 194 ∨ 223 < xx) (h6 : ¬ (xx = 224)) (h7 : 225 ≤ xx) (h8 : xx ≤ 236) (h9 : ¬ (av < 1)) (h10 : b1 < 128 ∨ 191 < b1) : own_E xx b1 b2 b3 av = (-2 : Int32) := own_E2 (by omega) (by omega) (by omega)
theorem lf0_13 (xx b1 b2 b3 av : Int) (h0 : 0 ≤ xx ∧ xx < 256) (h1 : 0 ≤ b1 ∧ b1 < 256) (h2 : 0 ≤ b2 ∧ b2 < 256) (h3 : 0 ≤ b3 ∧ b3 < 256) (h4 : 0 ≤ av ∧ av < 5) (h5 : xx < 194 ∨ 223 < xx) (h6 : ¬ (xx = 224)) (h7 : xx < 225 ∨ 236 < xx) (h8 : xx = 237) (h9 : av < 1) : own_E xx b1 b2 b3 av = (-2147483648 : Int32) := own_E1 (by omega) (by omega)
theorem lf0_14 (xx b1 b2 b3 av : Int) (h0 : 0 ≤ xx ∧ xx < 256) (h1 : 0 ≤ b1 ∧ b1 < 256) (h2 : 0 ≤ b2 ∧ b2 < 256) (h3 : 0 ≤ b3 ∧ b3 < 256) (h4 : 0 ≤ av ∧ av < 5) (h5 : xx < 194 ∨ 223 < xx) (h6 : ¬ (xx = 224)) (h7 : xx < 225 ∨ 236 < xx) (h8 : xx = 237) (h9 : ¬ (av < 1)) (h10 : 128 ≤ b1) (h11 : b1 ≤ 159) (h12 : av < 2) : own_E xx b1 b2 b3 av = (-2147483648 : Int32) := own_E4 (by omega) (by omega) (by omega) (by omega) (by omega)
theorem lf0_15 (xx b1 b2 b3 av : Int) (h0 : 0 ≤ xx ∧ xx < 256) (h1 : 0 ≤ b1 ∧ b1 < 256) (h2 : 0 ≤ b2 ∧ b2 < 256) (h3 : 0 ≤ b3 ∧ b3 < 256) (h4 : 0 ≤ av ∧ av < 5) (h5 : xx < 194 ∨ 223 < xx) (h6 : ¬ (xx = 224)) (h7 : xx < 225 ∨ 236 < xx) (h8 : xx = 237) (h9 : ¬ (av < 1)) (h10 : 128 ≤ b1) (h11 : b1 ≤ 159) (h12 : ¬ (av < 2)) (h13 : 128 ≤ b2) (h14 : b2 ≤ 191) : own_E xx b1 b2 b3 av = (3 : Int32) := own_E6 (by omega) (by omega) (by omega) (by omega) (by omega) (by omega) (by omega)
theorem lf0_16 (xx b1 b2 b3 av : Int) (h0 : 0 ≤ xx ∧ xx < 256) (h1 : 0 ≤ b1 ∧ b1 < 256) (h2 : 0 ≤ b2 ∧ b2 < 256) (h3 : 0 ≤ b3 ∧ b3 < 256) (h4 : 0 ≤ av ∧ av < 5) (h5 : xx < 194 ∨ 223 < xx) (h6 : ¬ (xx = 224)) (h7 : xx < 225 ∨ 236 < xx) (h8 : xx = 237) (h9 : ¬ (av < 1)) (h10 : 128 ≤ b1) (h11 : b1 ≤ 159) (h12 : ¬ (av < 2)) (h13 : b2 < 128 ∨ 191 < b2) : own_E xx b1 b2 b3 av = (-3 : Int32) := own_E5 (by omega) (by omega) (by omega) (by omega) (by omega) (by omega)
theorem lf0_17 (xx b1 b2 b3 av : Int) (h0 : 0 ≤ xx ∧ xx < 256) (h1 : 0 ≤ b1 ∧ b1 < 256) (h2 : 0 ≤ b2 ∧ b2 < 256) (h3 : 0 ≤ b3 ∧ b3 < 256) (h4 : 0 ≤ av ∧ av < 5) (h5 : xx < 194 ∨ 223 < xx) (h6 : ¬ (xx = 224)) (h7 : xx < 225 ∨ 236 < xx) (h8 : xx = 237) (h9 : ¬ (av < 1)) (h10 : b1 < 128 ∨ 159 < b1) : own_E xx b1 b2 b3 av = (-2 : Int32) := own_E2 (by omega) (by omega) (by omega)
theorem lf0_18 (xx b1 b2 b3 av : Int) (h0 : 0 ≤ xx ∧ xx < 256) (h1 : 0 ≤ b1 ∧ b1 < 256) (h2 : 0 ≤ b2 ∧ b2 < 256) (h3 : 0 ≤ b3 ∧ b3 < 256) (h4 : 0 ≤ av ∧ av < 5) (h5 : xx < 194 ∨ 223 < xx) (h6 : ¬ (xx = 224)) (h7 : xx < 225 ∨ 236 < xx) (h8 : ¬ (xx = 237)) (h9 : 238 ≤ xx) (h10 : xx ≤ 239) (h11 : av < 1) : own_E xx b1 b2 b3 av = (-2147483648 : Int32) := own_E1 (by omega) (by omega)
theorem lf0_19 (xx b1 b2 b3 av : Int) (h0 : 0 ≤ xx ∧ xx < 256) (h1 : 0 ≤ b1 ∧ b1 < 256) (h2 : 0 ≤ b2 ∧ b2 < 256) (h3 : 0 ≤ b3 ∧ b3 < 256) (h4 : 0 ≤ av ∧ av < 5) (h5 : xx < 194 ∨ 223 < xx) (h6 : ¬ (xx = 224)) (h7 : xx < 225 ∨ 236 < xx) (h8 : ¬ (xx = 237)) (h9 : 238 ≤ xx) (h10 : xx ≤ 239) (h11 : ¬ (av < 1)) (h12 : 128 ≤ b1) (h13 : b1 ≤ 191) (h14 : av < 2) : own_E xx b1 b2 b3 av = (-2147483648 : Int32) := own_E4 (by omega) (by omega) (by omega) (by omega) (by omega)
theorem lf0_20 (xx b1 b2 b3 av : Int) (h0 : 0 ≤ xx ∧ xx < 256) (h1 : 0 ≤ b1 ∧ b1 < 256) (h2 : 0 ≤ b2 ∧ b2 < 256) (h3 : 0 ≤ b3 ∧ b3 < 256) (h4 : 0 ≤ av ∧ av < 5) (h5 : xx < 194 ∨ 223 < xx) (h6 : ¬ (xx = 224)) (h7 : xx < 225 ∨ 236 < xx) (h8 : ¬ (xx = 237)) (h9 : 238 ≤ xx) (h10 : xx ≤ 239) (h11 : ¬ (av < 1)) (h12 : 128 ≤ b1) (h13 : b1 ≤ 191) (h14 : ¬ (av < 2)) (h15 : 128 ≤ b2) (h16 : b2 ≤ 191) : own_E xx b1 b2 b3 av = (3 : Int32) := own_E6 (by omega) (by omega) (by omega) (by omega) (by omega) (by omega) (by omega)
theorem lf0_21 (xx b1 b2 b3 av : Int) (h0 : 0 ≤ xx ∧ xx < 256) (h1 : 0 ≤ b1 ∧ b1 < 256) (h2 : 0 ≤ b2 ∧ b2 < 256) (h3 : 0 ≤ b3 ∧ b3 < 256) (h4 : 0 ≤ av ∧ av < 5) (h5 : xx < 194 ∨ 223 < xx) (h6 : ¬ (xx = 224)) (h7 : xx < 225 ∨ 236 < xx) (h8 : ¬ (xx = 237)) (h9 : 238 ≤ xx) (h10 : xx ≤ 239) (h11 : ¬ (av < 1)) (h12 : 128 ≤ b1) (h13 : b1 ≤ 191) (h14 : ¬ (av < 2)) (h15 : b2 < 128 ∨ 191 < b2) : own_E xx b1 b2 b3 av = (-3 : Int32) := own_E5 (by omega) (by omega) (by omega) (by omega) (by omega) (by omega)
theorem lf0_22 (xx b1 b2 b3 av : Int) (h0 : 0 ≤ xx ∧ xx < 256) (h1 : 0 ≤ b1 ∧ b1 < 256) (h2 : 0 ≤ b2 ∧ b2 < 256) (h3 : 0 ≤ b3 ∧ b3 < 256) (h4 : 0 ≤ av ∧ av < 5) (h5 : xx < 194 ∨ 223 < xx) (h6 : ¬ (xx = 224)) (h7 : xx < 225 ∨ 236 < xx) (h8 : ¬ (xx = 237)) (h9 : 238 ≤ xx) (h10 : xx ≤ 239) (h11 : ¬ (av < 1)) (h12 : b1 < 128 ∨ 191 < b1) : own_E xx b1 b2 b3 av = (-2 : Int32) := own_E2 (by omega) (by omega) (by omega)
theorem lf0_23 (xx b1 b2 b3 av : Int) (h0 : 0 ≤ xx ∧ xx < 256) (h1 : 0 ≤ b1 ∧ b1 < 256) (h2 : 0 ≤ b2 ∧ b2 < 256) (h3 : 0 ≤ b3 ∧ b3 < 256) (h4 : 0 ≤ av ∧ av < 5) (h5 : xx < 194 ∨ 223 < xx) (h6 : ¬ (xx = 224)) (h7 : xx < 225 ∨ 236 < xx) (h8 : ¬ (xx = 237)) (h9 : xx < 238 ∨ 239 < xx) (h10 : xx = 240) (h11 : av < 1) : own_E xx b1 b2 b3 av = (-2147483648 : Int32) := own_E1 (by omega) (by omega)
theorem lf0_24 (xx b1 b2 b3 av : Int) (h0 : 0 ≤ xx ∧ xx < 256) (h1 : 0 ≤ b1 ∧ b1 < 256) (h2 : 0 ≤ b2 ∧ b2 < 256) (h3 : 0 ≤ b3 ∧ b3 < 256) (h4 : 0 ≤ av ∧ av < 5) (h5 : xx < 194 ∨ 223 < xx) (h6 : ¬ (xx = 224)) (h7 : xx < 225 ∨ 236 < xx) (h8 : ¬ (xx = 237)) (h9 : xx < 238 ∨ 239 < xx) (h10 : xx = 240) (h11 : ¬ (av < 1)) (h12 : 144 ≤ b1) (h13 : b1 ≤ 191) (h14 : av < 2) : own_E xx b1 b2 b3 av = (-2147483648 : Int32) := own_E4 (by omega) (by omega) (by omega) (by omega) (by omega)
theorem lf0_25 (xx b1 b2 b3 av : Int) (h0 : 0 ≤ xx ∧ xx < 256) (h1 : 0 ≤ b1 ∧ b1 < 256) (h2 : 0 ≤ b2 ∧ b2 < 256) (h3 : 0 ≤ b3 ∧ b3 < 256) (h4 : 0 ≤ av ∧ av < 5) (h5 : xx < 194 ∨ 223 < xx) (h6 : ¬ (xx = 224)) (h7 : xx < 225 ∨ 236 < xx) (h8 : ¬ (xx = 237)) (h9 : xx < 238 ∨ 239 < xx) (h10 : xx = 240) (h11 : ¬ (av < 1)) (h12 : 144 ≤ b1) (h13 : b1 ≤ 191) (h14 : ¬ (av < 2)) (h15 : 128 ≤ b2) (h16 : b2 ≤ 191) (h17 : av < 3) : own_E xx b1 b2 b3 av = (-2147483648 : Int32) := own_E7 (by omega) (by omega) (by omega) (by omega) (by omega) (by omega) (by omega) (by omega)
theorem lf0_26 (xx b1 b2 b3 av : Int) (h0 : 0 ≤ xx ∧ xx < 256) (h1 : 0 ≤ b1 ∧ b1 < 256) (h2 : 0 ≤ b2 ∧ b2 < 256) (h3 : 0 ≤ b3 ∧ b3 < 256) (h4 : 0 ≤ av ∧ av < 5) (h5 : xx < 194 ∨ 223 < xx) (h6 : ¬ (xx = 224)) (h7 : xx < 225 ∨ 236 < xx) (h8 : ¬ (xx = 237)) (h9 : xx < 238 ∨ 239 < xx) (h10 : xx = 240) (h11 : ¬ (av < 1)) (h12 : 144 ≤ b1) (h13 : b1 ≤ 191) (h14 : ¬ (av < 2)) (h15 : 128 ≤ b2) (h16 : b2 ≤ 191) (h17 : ¬ (av < 3)) (h18 : 128 ≤ b3) (h19 : b3 ≤ 191) : own_E xx b1 b2 b3 av = (4 : Int32) := own_E9 (by omega) (by omega) (by omega) (by omega) (by omega) (by omega) (by omega) (by omega) (by omega)
theorem lf0_27 (xx b1 b2 b3 av : Int) (h0 : 0 ≤ xx ∧ xx < 256) (h1 : 0 ≤ b1 ∧ b1 < 256) (h2 : 0 ≤ b2 ∧ b2 < 256) (h3 : 0 ≤ b3 ∧ b3 < 256) (h4 : 0 ≤ av ∧ av < 5) (h5 : xx < 194 ∨ 223 < xx) (h6 : ¬ (xx = 224)) (h7 : xx < 225 ∨ 236 < xx) (h8 : ¬ (xx = 237)) (h9 : xx < 238 ∨ 239 < xx) (h10 : xx = 240) (h11 : ¬ (av < 1)) (h12 : 144 ≤ b1) (h13 : b1 ≤ 191) (h14 : ¬ (av < 2)) (h15 : 128 ≤ b2) (h16 : b2 ≤ 191) (h17 : ¬ (av < 3)) (h18 : b3 < 128 ∨ 191 < b3) : own_E xx b1 b2 b3 av = (-4 : Int32) := own_E8 (by omega) (by omega) (by omega) (by omega) (by omega) (by omega) (by omega) (by omega) (by omega)
theorem lf0_28 (xx b1 b2 b3 av : Int) (h0 : 0 ≤ xx ∧ xx < 256) (h1 : 0 ≤ b1 ∧ b1 < 256) (h2 : 0 ≤ b2 ∧ b2 < 256) (h3 : 0 ≤ b3 ∧ b3 < 256) (h4 : 0 ≤ av ∧ av < 5) (h5 : xx < 194 ∨ 223 < xx) (h6 : ¬ (xx = 224)) (h7 : xx < 225 ∨ 236 < xx) (h8 : ¬ (xx = 237)) (h9 : xx < 238 ∨ 239 < xx) (h10 : xx = 240) (h11 : ¬ (av < 1)) (h12 : 144 ≤ b1) (h13 : b1 ≤ 191) (h14 : ¬ (av < 2)) (h15 : b2 < 128 ∨ 191 < b2) : own_E xx b1 b2 b3 av = (-3 : Int32) := own_E5 (by omega) (by omega) (by omega) (by omega) (by omega) (by omega)
theorem lf0_29 (xx b1 b2 b3 av : Int) (h0 : 0 ≤ xx ∧ xx < 256) (h1 : 0 ≤ b1 ∧ b1 < 256) (h2 : 0 ≤ b2 ∧ b2 < 256) (h3 : 0 ≤ b3 ∧ b3 < 256) (h4 : 0 ≤ av ∧ av < 5) (h5 : xx < 194 ∨ 223 < xx) (h6 : ¬ (xx = 224)) (h7 : xx < 225 ∨ 236 < xx) (h8 : ¬ (xx = 237)) (h9 : xx < 238 ∨ 239 < xx) (h10 : xx = 240) (h11 : ¬ (av < 1)) (h12 : b1 < 144 ∨ 191 < b1) : own_E xx b1 b2 b3 av = (-2 : Int32) := own_E2 (by omega) (by omega) (by omega)
theorem lf0_30 (xx b1 b2 b3 av : Int) (h0 : 0 ≤ xx ∧ xx < 256) (h1 : 0 ≤ b1 ∧ b1 < 256) (h2 : 0 ≤ b2 ∧ b2 < 256) (h3 : 0 ≤ b3 ∧ b3 < 256) (h4 : 0 ≤ av ∧ av < 5) (h5 : xx < 194 ∨ 223 < xx) (h6 : ¬ (xx = 224)) (h7 : xx < 225 ∨ 236 < xx) (h8 : ¬ (xx = 237)) (h9 : xx < 238 ∨ 239 < xx) (h10 : ¬ (xx = 240)) (h11 : 241 ≤ xx) (h12 : xx ≤ 243) (h13 : av < 1) : own_E xx b1 b2 b3 av = (-2147483648 : Int32) := own_E1 (by omega) (by omega)
theorem lf0_31 (xx b1 b2 b3 av : Int) (h0 : 0 ≤ xx ∧ xx < 256) (h1 : 0 ≤ b1 ∧ b1 < 256) (h2 : 0 ≤ b2 ∧ b2 < 256) (h3 : 0 ≤ b3 ∧ b3 < 256) (h4 : 0 ≤ av ∧ av < 5) (h5 : xx < 194 ∨ 223 < xx) (h6 : ¬ (xx = 224)) (h7 : xx < 225 ∨ 236 < xx) (h8 : ¬ (xx = 237)) (h9 : xx < 238 ∨ 239 < xx) (h10 : ¬ (xx = 240)) (h11 : 241 ≤ xx) (h12 : xx ≤ 243) (h13 : ¬ (av < 1)) (h14 : 128 ≤ b1) (h15 : b1 ≤ 191) (h16 : av < 2) : own_E xx b1 b2 b3 av = (-2147483648 : Int32) := own_E4 (by omega) (by omega) (by omega) (by omega) (by omega)
theorem lf0_32 (xx b1 b2 b3 av : Int) (h0 : 0 ≤ xx ∧ xx < 256) (h1 : 0 ≤ b1 ∧ b1 < 256) (h2 : 0 ≤ b2 ∧ b2 < 256) (h3 : 0 ≤ b3 ∧ b3 < 256) (h4 : 0 ≤ av ∧ av < 5) (h5 : xx < 194 ∨ 223 < xx) (h6 : ¬ (xx = 224)) (h7 : xx < 225 ∨ 236 < xx) (h8 : ¬ (xx = 237)) (h9 : xx < 238 ∨ 239 < xx) (h10 : ¬ (xx = 240)) (h11 : 241 ≤ xx) (h12 : xx ≤ 243) (h13 : ¬ (av < 1)) (h14 : 128 ≤ b1) (h15 : b1 ≤ 191) (h16 : ¬ (av < 2)) (h17 : 128 ≤ b2) (h18 : b2 ≤ 191) (h19 : av < 3) : own_E xx b1 b2 b3 av = (-2147483648 : Int32) := own_E7 (by omega) (by omega) (by omega) (by omega) (by omega) (by omega) (by omega) (by omega)
theorem lf0_33 (xx b1 b2 b3 av : Int) (h0 : 0 ≤ xx ∧ xx < 256) (h1 : 0 ≤ b1 ∧ b1 < 256) (h2 : 0 ≤ b2 ∧ b2 < 256) (h3 : 0 ≤ b3 ∧ b3 < 256) (h4 : 0 ≤ av ∧ av < 5) (h5 : xx < 194 ∨ 223 < xx) (h6 : ¬ (xx = 224)) (h7 : xx < 225 ∨ 236 < xx) (h8 : ¬ (xx = 237)) (h9 : xx < 238 ∨ 239 < xx) (h10 : ¬ (xx = 240)) (h11 : 241 ≤ xx) (h12 : xx ≤ 243) (h13 : ¬ (av < 1)) (h14 : 128 ≤ b1) (h15 : b1 ≤ 191) (h16 : ¬ (av < 2)) (h17 : 128 ≤ b2) (h18 : b2 ≤ 191) (h19 : ¬ (av < 3)) (h20 : 128 ≤ b3) (h21 : b3 ≤ 191) : own_E xx b1 b2 b3 av = (4 : Int32) := own_E9 (by omega) (by omega) (by omega) (by omega) (by omega) (by omega) (by omega) (by omega) (by omega)
theorem lf0_34 (xx b1 b2 b3 av : Int) (h0 : 0 ≤ xx ∧ xx < 256) (h1 : 0 ≤ b1 ∧ b1 < 256) (h2 : 0 ≤ b2 ∧ b2 < 256) (h3 : 0 ≤ b3 ∧ b3 < 256) (h4 : 0 ≤ av ∧ av < 5) (h5 : xx < 194 ∨ 223 < xx) (h6 : ¬ (xx = 224)) (h7 : xx < 225 ∨ 236 < xx) (h8 : ¬ (xx = 237)) (h9 : xx < 238 ∨ 239 < xx) (h10 : ¬ (xx = 240)) (h11 : 241 ≤ xx) (h12 : xx ≤ 243) (h13 : ¬ (av < 1)) (h14 : 128 ≤ b1) (h15 : b1 ≤ 191) (h16 : ¬ (av < 2)) (h17 : 128 ≤ b2) (h18 : b2 ≤ 191) (h19 : ¬ (av < 3)) (h20 : b3 < 128 ∨ 191 < b3) : own_E xx b1 b2 b3 av = (-4 : Int32) := own_E8 (by omega) (by omega) (by omega) (by omega) (by omega) (by omega) (by omega) (by omega) (by omega)
theorem lf0_35 (xx b1 b2 b3 av : Int) (h0 : 0 ≤ xx ∧ xx < 256) (h1 : 0 ≤ b1 ∧ b1 < 256) (h2 : 0 ≤ b2 ∧ b2 < 256) (h3 : 0 ≤ b3 ∧ b3 < 256) (h4 : 0 ≤ av ∧ av < 5) (h5 : xx < 194 ∨ 223 < xx) (h6 : ¬ (xx = 224)) (h7 : xx < 225 ∨ 236 < xx) (h8 : ¬ (xx = 237)) (h9 : xx < 238 ∨ 239 < xx) (h10 : ¬ (xx = 240)) (h11 : 241 ≤ xx) (h12 : xx ≤ 243) (h13 : ¬ (av < 1)) (h14 : 128 ≤ b1) (h15 : b1 ≤ 191) (h16 : ¬ (av < 2)) (h17 : b2 < 128 ∨ 191 < b2) : own_E xx b1 b2 b3 av = (-3 : Int32) := own_E5 (by omega) (by omega) (by omega) (by omega) (by omega) (by omega)
theorem lf0_36 (xx b1 b2 b3 av : Int) (h0 : 0 ≤ xx ∧ xx < 256) (h1 : 0 ≤ b1 ∧ b1 < 256) (h2 : 0 ≤ b2 ∧ b2 < 256) (h3 : 0 ≤ b3 ∧ b3 < 256) (h4 : 0 ≤ av ∧ av < 5) (h5 : xx < 194 ∨ 223 < xx) (h6 : ¬ (xx = 224)) (h7 : xx < 225 ∨ 236 < xx) (h8 : ¬ (xx = 237)) (h9 : xx < 238 ∨ 239 < xx) (h10 : ¬ (xx = 240)) (h11 : 241 ≤ xx) (h12 : xx ≤ 243) (h13 : ¬ (av < 1)) (h14 : b1 < 128 ∨ 191 < b1) : own_E xx b1 b2 b3 av = (-2 : Int32) := own_E2 (by omega) (by omega) (by omega)
theorem lf0_37 (xx b1 b2 b3 av : Int) (h0 : 0 ≤ xx ∧ xx < 256) (h1 : 0 ≤ b1 ∧ b1 < 256) (h2 : 0 ≤ b2 ∧ b2 < 256) (h3 : 0 ≤ b3 ∧ b3 < 256) (h4 : 0 ≤ av ∧ av < 5) (h5 : xx < 194 ∨ 223 < xx) (h6 : ¬ (xx = 224)) (h7 : xx < 225 ∨ 236 < xx) (h8 : ¬ (xx = 237)) (h9 : xx < 238 ∨ 239 < xx) (h10 : ¬ (xx = 240)) (h11 : xx < 241 ∨ 243 < xx) (h12 : xx = 244) (h13 : av < 1) : own_E xx b1 b2 b3 av = (-2147483648 : Int32) := own_E1 (by omega) (by omega)
theorem lf0_38 (xx b1 b2 b3 av : Int) (h0 : 0 ≤ xx ∧ xx < 256) (h1 : 0 ≤ b1 ∧ b1 < 256) (h2 : 0 ≤ b2 ∧ b2 < 256) (h3 : 0 ≤ b3 ∧ b3 < 256) (h4 : 0 ≤ av ∧ av < 5) (h5 : xx < 194 ∨ 223 < xx) (h6 : ¬ (xx = 224)) (h7 : xx < 225 ∨ 236 < xx) (h8 : ¬ (xx = 237)) (h9 : xx < 238 ∨ 239 < xx) (h10 : ¬ (xx = 240)) (h11 : xx < 241 ∨ 243 < xx) (h12 : xx = 244) (h13 : ¬ (av < 1)) (h14 : 128 ≤ b1) (h15 : b1 ≤ 143) (h16 : av < 2) : own_E xx b1 b2 b3 av = (-2147483648 : Int32) := own_E4 (by omega) (by omega) (by omega) (by omega) (by omega)
theorem lf0_39 (xx b1 b2 b3 av : Int) (h0 : 0 ≤ xx ∧ xx < 256) (h1 : 0 ≤ b1 ∧ b1 < 256) (h2 : 0 ≤ b2 ∧ b2 < 256) (h3 : 0 ≤ b3 ∧ b3 < 256) (h4 : 0 ≤ av ∧ av < 5) (h5 : xx < 194 ∨ 223 < xx) (h6 : ¬ (xx = 224)) (h7 : xx < 225 ∨ 236 < xx) (h8 : ¬ (xx = 237)) (h9 : xx < 238 ∨ 239 < xx) (h10 : ¬ (xx = 240)) (h11 : xx < 241 ∨ 243 < xx) (h12 : xx = 244) (h13 : ¬ (av < 1)) (h14 : 128 ≤ b1) (h15 : b1 ≤ 143) (h16 : ¬ (av < 2)) (h17 : 128 ≤ b2) (h18 : b2 ≤ 191) (h19 : av < 3) : own_E xx b1 b2 b3 av = (-2147483648 : Int32) := own_E7 (by omega) (by omega) (by omega) (by omega) (by omega) (by omega) (by omega) (by omega)
theorem lf0_40 (xx b1 b2 b3 av : Int) (h0 : 0 ≤ xx ∧ xx < 256) (h1 : 0 ≤ b1 ∧ b1 < 256) (h2 : 0 ≤ b2 ∧ b2 < 256) (h3 : 0 ≤ b3 ∧ b3 < 256) (h4 : 0 ≤ av ∧ av < 5) (h5 : xx < 194 ∨ 223 < xx) (h6 : ¬ (xx = 224)) (h7 : xx < 225 ∨ 236 < xx) (h8 : ¬ (xx = 237)) (h9 : xx < 238 ∨ 239 < xx) (h10 : ¬ (xx = 240)) (h11 : xx < 241 ∨ 243 < xx) (h12 : xx = 244) (h13 : ¬ (av < 1)) (h14 : 128 ≤ b1) (h15 : b1 ≤ 143) (h16 : ¬ (av < 2)) (h17 : 128 ≤ b2) (h18 : b2 ≤ 191) (h19 : ¬ (av < 3)) (h20 : 128 ≤ b3) (h21 : b3 ≤ 191) : own_E xx b1 b2 b3 av = (4 : Int32) := own_E9 (by omega) (by omega) (by omega) (by omega) (by omega) (by omega) (by omega) (by omega) (by omega)
theorem lf0_41 (xx b1 b2 b3 av : Int) (h0 : 0 ≤ xx ∧ xx < 256) (h1 : 0 ≤ b1 ∧ b1 < 256) (h2 : 0 ≤ b2 ∧ b2 < 256) (h3 : 0 ≤ b3 ∧ b3 < 256) (h4 : 0 ≤ av ∧ av < 5) (h5 : xx < 194 ∨ 223 < xx) (h6 : ¬ (xx = 224)) (h7 : xx < 225 ∨ 236 < xx) (h8 : ¬ (xx = 237)) (h9 : xx < 238 ∨ 239 < xx) (h10 : ¬ (xx = 240)) (h11 : xx < 241 ∨ 243 < xx) (h12 : xx = 244) (h13 : ¬ (av < 1)) (h14 : 128 ≤ b1) (h15 : b1 ≤ 143) (h16 : ¬ (av < 2)) (h17 : 128 ≤ b2) (h18 : b2 ≤ 191) (h19 : ¬ (av < 3)) (h20 : b3 < 128 ∨ 191 < b3) : own_E xx b1 b2 b3 av = (-4 : Int32) := own_E8 (by omega) (by omega) (by omega) (by omega) (by omega) (by omega) (by omega) (by omega) (by omega)
theorem lf0_42 (xx b1 b2 b3 av : Int) (h0 : 0 ≤ xx ∧ xx < 256) (h1 : 0 ≤ b1 ∧ b1 < 256) (h2 : 0 ≤ b2 ∧ b2 < 256) (h3 : 0 ≤ b3 ∧ b3 < 256) (h4 : 0 ≤ av ∧ av < 5) (h5 : xx < 194 ∨ 223 < xx) (h6 : ¬ (xx = 224)) (h7 : xx < 225 ∨ 236 < xx) (h8 : ¬ (xx = 237)) (h9 : xx < 238 ∨ 239 < xx) (h10 : ¬ (xx = 240)) (h11 : xx < 241 ∨ 243 < xx) (h12 : xx = 244) (h13 : ¬ (av < 1)) (h14 : 128 ≤ b1) (h15 : b1 ≤ 143) (h16 : ¬ (av < 2)) (h17 : b2 < 128 ∨ 191 < b2) : own_E xx b1 b2 b3 av = (-3 : Int32) := own_E5 (by omega) (by omega) (by omega) (by omega) (by omega) (by omega)
theorem lf0_43 (xx b1 b2 b3 av : Int) (h0 : 0 ≤ xx ∧ xx < 256) (h1 : 0 ≤ b1 ∧ b1 < 256) (h2 : 0 ≤ b2 ∧ b2 < 256) (h3 : 0 ≤ b3 ∧ b3 < 256) (h4 : 0 ≤ av ∧ av < 5) (h5 : xx < 194 ∨ 223 < xx) (h6 : ¬ (xx = 224)) (h7 : xx < 225 ∨ 236 < xx) (h8 : ¬ (xx = 237)) (h9 : xx < 238 ∨ 239 < xx) (h10 : ¬ (xx = 240)) (h11 : xx < 241 ∨ 243 < xx) (h12 : xx = 244) (h13 : ¬ (av < 1)) (h14 : b1 < 128 ∨ 143 < b1) : own_E xx b1 b2 b3 av = (-2 : Int32) := own_E2 (by omega) (by omega) (by omega)
theorem lf0_44 (xx b1 b2 b3 av : Int) (h0 : 0 ≤ xx ∧ xx < 256) (h1 : 0 ≤ b1 ∧ b1 < 256) (h2 : 0 ≤ b2 ∧ b2 < 256) (h3 : 0 ≤ b3 ∧ b3 < 256) (h4 : 0 ≤ av ∧ av < 5) (h5 : xx < 194 ∨ 223 < xx) (h6 : ¬ (xx = 224)) (h7 : xx < 225 ∨ 236 < xx) (h8 : ¬ (xx = 237)) (h9 : xx < 238 ∨ 239 < xx) (h10 : ¬ (xx = 240)) (h11 : xx < 241 ∨ 243 < xx) (h12 : ¬ (xx = 244)) : own_E xx b1 b2 b3 av = (-1 : Int32) := own_E0 (by omega)
set_option maxRecDepth 65536 in
set_option maxHeartbeats 40000000 in
theorem seg0 {p : Program} {l : Launch} {e : Env} {s : State} {m : MethodId} {args : Array Value} {below : List Frame} {meth : Method} {c : Code} {T0 : State} {locs : List Loc} {Z : State} {a0 : Array Value} {h0 : Heap} {n0 : Nat} (p1 p2 p3 p4 p5 p6 of : Int32) (b : Addr) (lim av xx b1 b2 b3 : Int32) (X0 : Stand p l e room_1 s m args below meth c T0 locs 1 5) (hx : p.tables.exec = Jvm.exec) (hZ : Z.Warmed39 s.vm) (hw : ∀ d ∈ tables_1, d.before a0 Z = true) (hby : c.code = code) (hml : c.maxLocals = 18) (hown : s.vm.findClass "com/example/kindgen/kindgen/runtime/Utf8CursorSequenceLengthPinLaw" = some m.cls) (e0 : T0.heap = h0) (Z0 : n0 ≤ h0.size) (N0 : Fr n0 locs) (r_xx : 0 ≤ xx.toInt ∧ xx.toInt < 256) (r_b1 : 0 ≤ b1.toInt ∧ b1.toInt < 256) (r_b2 : 0 ≤ b2.toInt ∧ b2.toInt < 256) (r_b3 : 0 ≤ b3.toInt ∧ b3.toInt < 256) (r_av : 0 ≤ av.toInt ∧ av.toInt < 5) :
    ∃ (T' : State) (locs' : List Loc) (v14 v15 v16 : Int32), Stand p l e room_1 s m args below meth c T' locs' 1 5 ∧ T'.heap = h0 ∧ Fr n0 locs' ∧ ∀ t, Steps p.tables e below (T'.setTop (mkF m 453 #[.val (.int p1), .val (.int p2), .val (.int p3), .val (.int p4), .val (.int p5), .val (.int p6), .val (.int of), .val (.ref b), .val (.int lim), .val (.int av), .val (.int xx), .val (.int b1), .val (.int b2), .val (.int b3), .val (.int v14), .val (.int v15), .val (.int v16), .val (.int (own_E xx.toInt b1.toInt b2.toInt b3.toInt av.toInt))] [])) t → Steps p.tables e below (T0.setTop (mkF m 146 #[.val (.int p1), .val (.int p2), .val (.int p3), .val (.int p4), .val (.int p5), .val (.int p6), .val (.int of), .val (.ref b), .val (.int lim), .val (.int av), .val (.int xx), .val (.int b1), .val (.int b2), .val (.int b3), .unset, .unset, .unset, .unset] [])) t := by
  have pre0 : ∀ t, Steps p.tables e below (T0.setTop (mkF m 146 #[.val (.int p1), .val (.int p2), .val (.int p3), .val (.int p4), .val (.int p5), .val (.int p6), .val (.int of), .val (.ref b), .val (.int lim), .val (.int av), .val (.int xx), .val (.int b1), .val (.int b2), .val (.int b3), .unset, .unset, .unset, .unset] [])) t → Steps p.tables e below (T0.setTop (mkF m 146 #[.val (.int p1), .val (.int p2), .val (.int p3), .val (.int p4), .val (.int p5), .val (.int p6), .val (.int of), .val (.ref b), .val (.int lim), .val (.int av), .val (.int xx), .val (.int b1), .val (.int b2), .val (.int b3), .unset, .unset, .unset, .unset] [])) t := fun t k => k
  obtain ⟨_, _, ⟨T1, L1, k1, n1⟩, -, X1, ⟨Lc1, hQ1, l1, y1, z1⟩, st1⟩ := Jvm.LawKit.callS X0 hx (y := (⟨"com/example/kindgen/kindgen/runtime/Utf8CursorSequenceLengthPinLaw", "in", "(III)Z"⟩ : MethodName)) hown (mvT hZ (hw _ (List.mem_of_getElem? (i := 1) rfl))) (mvT hZ (hw _ (List.mem_of_getElem? (i := 2) rfl))) (mvT hZ (hw _ (List.mem_of_getElem? (i := 3) rfl))) (mvT hZ (hw _ (List.mem_of_getElem? (i := 4) rfl))) (by decide) (backOf (W := 0) (rm1 l Z a0 hw [] xx (194 : Int32) (223 : Int32) h0 n0 Z0) hZ (hw _ (List.mem_of_getElem? (i := 4) rfl)) (hw _ (List.mem_of_getElem? (i := 3) rfl)) (by decide) (by decide)) (g := (mkF m 164 #[.val (.int p1), .val (.int p2), .val (.int p3), .val (.int p4), .val (.int p5), .val (.int p6), .val (.int of), .val (.ref b), .val (.int lim), .val (.int av), .val (.int xx), .val (.int b1), .val (.int b2), .val (.int b3), .unset, .val (.int (128 : Int32)), .val (.int (191 : Int32)), .unset] [(.int (223 : Int32)), (.int (194 : Int32)), (.int xx)])) rfl (by rw [hml]; rfl) (argsL := [(.int xx), (.int (194 : Int32)), (.int (223 : Int32))]) (rest := []) (lenOf pd_0 rfl) rfl (by show 2 * 0 + _ ≤ _; exact Nat.le_of_eq rfl) (hb hby at_164) (fun _ _ => ⟨rfl, e0, (by decide : 1 + 0 ≤ _), (by decide : 5 + 0 ≤ _)⟩)
  dsimp only [Pt.U, Pt.locs, Pt.cells, Pt.slots] at X1 l1 y1 z1 st1 hQ1
  subst l1 y1 z1
  obtain ⟨rfl, N1q, e1⟩ := hQ1
  have N1 := Fr.app N0 N1q
  rcases own_in xx (194 : Int32) (223 : Int32) with ⟨v1, i1a, i1b⟩ | ⟨v1, i1⟩
  · rw [v1] at st1
    have pre2 : ∀ t, Steps p.tables e below (T1.setTop (mkF m 329 #[.val (.int p1), .val (.int p2), .val (.int p3), .val (.int p4), .val (.int p5), .val (.int p6), .val (.int of), .val (.ref b), .val (.int lim), .val (.int av), .val (.int xx), .val (.int b1), .val (.int b2), .val (.int b3), .val (.int (2 : Int32)), .val (.int (128 : Int32)), .val (.int (191 : Int32)), .unset] [(.int (1 : Int32)), (.int av)])) t → Steps p.tables e below (T0.setTop (mkF m 146 #[.val (.int p1), .val (.int p2), .val (.int p3), .val (.int p4), .val (.int p5), .val (.int p6), .val (.int of), .val (.ref b), .val (.int lim), .val (.int av), .val (.int xx), .val (.int b1), .val (.int b2), .val (.int b3), .unset, .unset, .unset, .unset] [])) t := by
      intro t k
      refine pre0 t ?_
      show Steps p.tables e below (T0.setTop (mkF m 146 #[.val (.int p1), .val (.int p2), .val (.int p3), .val (.int p4), .val (.int p5), .val (.int p6), .val (.int of), .val (.ref b), .val (.int lim), .val (.int av), .val (.int xx), .val (.int b1), .val (.int b2), .val (.int b3), .unset, .unset, .unset, .unset] [])) _
      refine XS.sipush X0.here hx rfl (hb hby at_146) ?_
      refine XS.istore X0.here hx rfl (hb hby at_149) rfl (l' := #[.val (.int p1), .val (.int p2), .val (.int p3), .val (.int p4), .val (.int p5), .val (.int p6), .val (.int of), .val (.ref b), .val (.int lim), .val (.int av), .val (.int xx), .val (.int b1), .val (.int b2), .val (.int b3), .unset, .val (.int (128 : Int32)), .unset, .unset]) rfl ?_
      refine XS.sipush X0.here hx rfl (hb hby at_151) ?_
      refine XS.istore X0.here hx rfl (hb hby at_154) rfl (l' := #[.val (.int p1), .val (.int p2), .val (.int p3), .val (.int p4), .val (.int p5), .val (.int p6), .val (.int of), .val (.ref b), .val (.int lim), .val (.int av), .val (.int xx), .val (.int b1), .val (.int b2), .val (.int b3), .unset, .val (.int (128 : Int32)), .val (.int (191 : Int32)), .unset]) rfl ?_
      show Steps p.tables e below (T0.setTop (mkF m 156 #[.val (.int p1), .val (.int p2), .val (.int p3), .val (.int p4), .val (.int p5), .val (.int p6), .val (.int of), .val (.ref b), .val (.int lim), .val (.int av), .val (.int xx), .val (.int b1), .val (.int b2), .val (.int b3), .unset, .val (.int (128 : Int32)), .val (.int (191 : Int32)), .unset] [])) _
      refine XS.iload X0.here hx rfl (hb hby at_156) rfl ?_
      refine XS.sipush X0.here hx rfl (hb hby at_158) ?_
      refine XS.sipush X0.here hx rfl (hb hby at_161) ?_
      show Steps p.tables e below (T0.setTop (mkF m 164 #[.val (.int p1), .val (.int p2), .val (.int p3), .val (.int p4), .val (.int p5), .val (.int p6), .val (.int of), .val (.ref b), .val (.int lim), .val (.int av), .val (.int xx), .val (.int b1), .val (.int b2), .val (.int b3), .unset, .val (.int (128 : Int32)), .val (.int (191 : Int32)), .unset] [(.int (223 : Int32)), (.int (194 : Int32)), (.int xx)])) _
      refine st1 _ ?_
      show Steps p.tables e below (T1.setTop (mkF m 167 #[.val (.int p1), .val (.int p2), .val (.int p3), .val (.int p4), .val (.int p5), .val (.int p6), .val (.int of), .val (.ref b), .val (.int lim), .val (.int av), .val (.int xx), .val (.int b1), .val (.int b2), .val (.int b3), .unset, .val (.int (128 : Int32)), .val (.int (191 : Int32)), .unset] [(.int (1 : Int32))])) _
      refine XS.ifNo X1.here hx rfl (hb hby at_167) rfl ((if0 _ _).trans (feq (by decide : ¬ ((1 : Int32) = (0 : Int32)))).1) ?_
      refine XS.iconst X1.here hx rfl (hb hby at_170) ?_
      refine XS.istore X1.here hx rfl (hb hby at_171) rfl (l' := #[.val (.int p1), .val (.int p2), .val (.int p3), .val (.int p4), .val (.int p5), .val (.int p6), .val (.int of), .val (.ref b), .val (.int lim), .val (.int av), .val (.int xx), .val (.int b1), .val (.int b2), .val (.int b3), .val (.int (2 : Int32)), .val (.int (128 : Int32)), .val (.int (191 : Int32)), .unset]) rfl ?_
      refine XS.goto X1.here hx rfl (pc0 := 173) (pc' := 315) rfl (hb hby at_173) (by decide) (by decide) ?_
      show Steps p.tables e below (T1.setTop (mkF m 315 #[.val (.int p1), .val (.int p2), .val (.int p3), .val (.int p4), .val (.int p5), .val (.int p6), .val (.int of), .val (.ref b), .val (.int lim), .val (.int av), .val (.int xx), .val (.int b1), .val (.int b2), .val (.int b3), .val (.int (2 : Int32)), .val (.int (128 : Int32)), .val (.int (191 : Int32)), .unset] [])) _
      refine XS.iload X1.here hx rfl (hb hby at_315) rfl ?_
      show Steps p.tables e below (T1.setTop (mkF m 317 #[.val (.int p1), .val (.int p2), .val (.int p3), .val (.int p4), .val (.int p5), .val (.int p6), .val (.int of), .val (.ref b), .val (.int lim), .val (.int av), .val (.int xx), .val (.int b1), .val (.int b2), .val (.int b3), .val (.int (2 : Int32)), .val (.int (128 : Int32)), .val (.int (191 : Int32)), .unset] [(.int (2 : Int32))])) _
      refine XS.ifYes X1.here hx rfl (pc0 := 317) (pc' := 326) rfl (hb hby at_317) rfl ((if0 _ _).trans (flt (by decide : ¬ ((2 : Int32) < (0 : Int32)))).2.1) (by decide) (by decide) ?_
      refine XS.iload X1.here hx rfl (hb hby at_326) rfl ?_
      refine XS.iconst X1.here hx rfl (hb hby at_328) ?_
      exact k
    by_cases hc329_3 : av < (1 : Int32)
    · have i_hc329_3 : av.toInt < (1 : Int32).toInt := (Int32.lt_iff_toInt_lt).mp hc329_3
      have pre4 : ∀ t, Steps p.tables e below (T1.setTop (mkF m 453 #[.val (.int p1), .val (.int p2), .val (.int p3), .val (.int p4), .val (.int p5), .val (.int p6), .val (.int of), .val (.ref b), .val (.int lim), .val (.int av), .val (.int xx), .val (.int b1), .val (.int b2), .val (.int b3), .val (.int (2 : Int32)), .val (.int (128 : Int32)), .val (.int (191 : Int32)), .val (.int (-2147483648 : Int32))] [])) t → Steps p.tables e below (T0.setTop (mkF m 146 #[.val (.int p1), .val (.int p2), .val (.int p3), .val (.int p4), .val (.int p5), .val (.int p6), .val (.int of), .val (.ref b), .val (.int lim), .val (.int av), .val (.int xx), .val (.int b1), .val (.int b2), .val (.int b3), .unset, .unset, .unset, .unset] [])) t := by
        intro t k
        refine pre2 t ?_
        show Steps p.tables e below (T1.setTop (mkF m 329 #[.val (.int p1), .val (.int p2), .val (.int p3), .val (.int p4), .val (.int p5), .val (.int p6), .val (.int of), .val (.ref b), .val (.int lim), .val (.int av), .val (.int xx), .val (.int b1), .val (.int b2), .val (.int b3), .val (.int (2 : Int32)), .val (.int (128 : Int32)), .val (.int (191 : Int32)), .unset] [(.int (1 : Int32)), (.int av)])) _
        refine XS.icmpNo X1.here hx rfl (hb hby at_329) rfl (tlt hc329_3).2.1 ?_
        show Steps p.tables e below (T1.setTop (mkF m 332 #[.val (.int p1), .val (.int p2), .val (.int p3), .val (.int p4), .val (.int p5), .val (.int p6), .val (.int of), .val (.ref b), .val (.int lim), .val (.int av), .val (.int xx), .val (.int b1), .val (.int b2), .val (.int b3), .val (.int (2 : Int32)), .val (.int (128 : Int32)), .val (.int (191 : Int32)), .unset] [])) _
        refine X1.ldcInt hx hown (mvT hZ (hw _ (List.mem_of_getElem? (i := 9) rfl))) (g := (mkF m 332 #[.val (.int p1), .val (.int p2), .val (.int p3), .val (.int p4), .val (.int p5), .val (.int p6), .val (.int of), .val (.ref b), .val (.int lim), .val (.int av), .val (.int xx), .val (.int b1), .val (.int b2), .val (.int b3), .val (.int (2 : Int32)), .val (.int (128 : Int32)), .val (.int (191 : Int32)), .unset] [])) rfl (hb hby at_332) _ ?_
        refine XS.istore X1.here hx rfl (hb hby at_334) rfl (l' := #[.val (.int p1), .val (.int p2), .val (.int p3), .val (.int p4), .val (.int p5), .val (.int p6), .val (.int of), .val (.ref b), .val (.int lim), .val (.int av), .val (.int xx), .val (.int b1), .val (.int b2), .val (.int b3), .val (.int (2 : Int32)), .val (.int (128 : Int32)), .val (.int (191 : Int32)), .val (.int (-2147483648 : Int32))]) rfl ?_
        refine XS.goto X1.here hx rfl (pc0 := 336) (pc' := 453) rfl (hb hby at_336) (by decide) (by decide) ?_
        exact k
      refine ⟨T1, _, (2 : Int32), (128 : Int32), (191 : Int32), X1, e1, N1, fun t k => pre4 t ?_⟩
      have eE : own_E xx.toInt b1.toInt b2.toInt b3.toInt av.toInt = (-2147483648 : Int32) := (lf0_0 (xx.toInt) (b1.toInt) (b2.toInt) (b3.toInt) (av.toInt) r_xx r_b1 r_b2 r_b3 r_av i1a i1b i_hc329_3)
      rw [eE] at k
      exact k
    · have i_hc329_3 : ¬ (av.toInt < (1 : Int32).toInt) := fun q => hc329_3 ((Int32.lt_iff_toInt_lt).mpr q)
      obtain ⟨_, _, ⟨T5, L5, k5, n5⟩, -, X5, ⟨Lc5, hQ5, l5, y5, z5⟩, st5⟩ := Jvm.LawKit.callS X1 hx (y := (⟨"com/example/kindgen/kindgen/runtime/Utf8CursorSequenceLengthPinLaw", "in", "(III)Z"⟩ : MethodName)) hown (mvT hZ (hw _ (List.mem_of_getElem? (i := 1) rfl))) (mvT hZ (hw _ (List.mem_of_getElem? (i := 2) rfl))) (mvT hZ (hw _ (List.mem_of_getElem? (i := 3) rfl))) (mvT hZ (hw _ (List.mem_of_getElem? (i := 4) rfl))) (by decide) (backOf (W := 0) (rm1 l Z a0 hw [] b1 (128 : Int32) (191 : Int32) h0 n0 Z0) hZ (hw _ (List.mem_of_getElem? (i := 4) rfl)) (hw _ (List.mem_of_getElem? (i := 3) rfl)) (by decide) (by decide)) (g := (mkF m 345 #[.val (.int p1), .val (.int p2), .val (.int p3), .val (.int p4), .val (.int p5), .val (.int p6), .val (.int of), .val (.ref b), .val (.int lim), .val (.int av), .val (.int xx), .val (.int b1), .val (.int b2), .val (.int b3), .val (.int (2 : Int32)), .val (.int (128 : Int32)), .val (.int (191 : Int32)), .unset] [(.int (191 : Int32)), (.int (128 : Int32)), (.int b1)])) rfl (by rw [hml]; rfl) (argsL := [(.int b1), (.int (128 : Int32)), (.int (191 : Int32))]) (rest := []) (lenOf pd_0 rfl) rfl (by show 2 * 0 + _ ≤ _; exact Nat.le_of_eq rfl) (hb hby at_345) (fun _ _ => ⟨rfl, e1, (by decide : 1 + 0 ≤ _), (by decide : 5 + 0 ≤ _)⟩)
      dsimp only [Pt.U, Pt.locs, Pt.cells, Pt.slots] at X5 l5 y5 z5 st5 hQ5
      subst l5 y5 z5
      obtain ⟨rfl, N5q, e5⟩ := hQ5
      have N5 := Fr.app N1 N5q
      rcases own_in b1 (128 : Int32) (191 : Int32) with ⟨v5, i5a, i5b⟩ | ⟨v5, i5⟩
      · rw [v5] at st5
        have pre6 : ∀ t, Steps p.tables e below (T5.setTop (mkF m 453 #[.val (.int p1), .val (.int p2), .val (.int p3), .val (.int p4), .val (.int p5), .val (.int p6), .val (.int of), .val (.ref b), .val (.int lim), .val (.int av), .val (.int xx), .val (.int b1), .val (.int b2), .val (.int b3), .val (.int (2 : Int32)), .val (.int (128 : Int32)), .val (.int (191 : Int32)), .val (.int (2 : Int32))] [])) t → Steps p.tables e below (T0.setTop (mkF m 146 #[.val (.int p1), .val (.int p2), .val (.int p3), .val (.int p4), .val (.int p5), .val (.int p6), .val (.int of), .val (.ref b), .val (.int lim), .val (.int av), .val (.int xx), .val (.int b1), .val (.int b2), .val (.int b3), .unset, .unset, .unset, .unset] [])) t := by
          intro t k
          refine pre2 t ?_
          show Steps p.tables e below (T1.setTop (mkF m 329 #[.val (.int p1), .val (.int p2), .val (.int p3), .val (.int p4), .val (.int p5), .val (.int p6), .val (.int of), .val (.ref b), .val (.int lim), .val (.int av), .val (.int xx), .val (.int b1), .val (.int b2), .val (.int b3), .val (.int (2 : Int32)), .val (.int (128 : Int32)), .val (.int (191 : Int32)), .unset] [(.int (1 : Int32)), (.int av)])) _
          refine XS.icmpYes X1.here hx rfl (pc0 := 329) (pc' := 339) rfl (hb hby at_329) rfl (flt hc329_3).2.1 (by decide) (by decide) ?_
          refine XS.iload X1.here hx rfl (hb hby at_339) rfl ?_
          refine XS.iload X1.here hx rfl (hb hby at_341) rfl ?_
          refine XS.iload X1.here hx rfl (hb hby at_343) rfl ?_
          show Steps p.tables e below (T1.setTop (mkF m 345 #[.val (.int p1), .val (.int p2), .val (.int p3), .val (.int p4), .val (.int p5), .val (.int p6), .val (.int of), .val (.ref b), .val (.int lim), .val (.int av), .val (.int xx), .val (.int b1), .val (.int b2), .val (.int b3), .val (.int (2 : Int32)), .val (.int (128 : Int32)), .val (.int (191 : Int32)), .unset] [(.int (191 : Int32)), (.int (128 : Int32)), (.int b1)])) _
          refine st5 _ ?_
          show Steps p.tables e below (T5.setTop (mkF m 348 #[.val (.int p1), .val (.int p2), .val (.int p3), .val (.int p4), .val (.int p5), .val (.int p6), .val (.int of), .val (.ref b), .val (.int lim), .val (.int av), .val (.int xx), .val (.int b1), .val (.int b2), .val (.int b3), .val (.int (2 : Int32)), .val (.int (128 : Int32)), .val (.int (191 : Int32)), .unset] [(.int (1 : Int32))])) _
          refine XS.ifYes X5.here hx rfl (pc0 := 348) (pc' := 358) rfl (hb hby at_348) rfl ((if0 _ _).trans (feq (by decide : ¬ ((1 : Int32) = (0 : Int32)))).2) (by decide) (by decide) ?_
          refine XS.iload X5.here hx rfl (hb hby at_358) rfl ?_
          refine XS.iconst X5.here hx rfl (hb hby at_360) ?_
          show Steps p.tables e below (T5.setTop (mkF m 361 #[.val (.int p1), .val (.int p2), .val (.int p3), .val (.int p4), .val (.int p5), .val (.int p6), .val (.int of), .val (.ref b), .val (.int lim), .val (.int av), .val (.int xx), .val (.int b1), .val (.int b2), .val (.int b3), .val (.int (2 : Int32)), .val (.int (128 : Int32)), .val (.int (191 : Int32)), .unset] [(.int (2 : Int32)), (.int (2 : Int32))])) _
          refine XS.icmpNo X5.here hx rfl (hb hby at_361) rfl (teq (by decide : (2 : Int32) = (2 : Int32))).2 ?_
          refine XS.iconst X5.here hx rfl (hb hby at_364) ?_
          refine XS.istore X5.here hx rfl (hb hby at_365) rfl (l' := #[.val (.int p1), .val (.int p2), .val (.int p3), .val (.int p4), .val (.int p5), .val (.int p6), .val (.int of), .val (.ref b), .val (.int lim), .val (.int av), .val (.int xx), .val (.int b1), .val (.int b2), .val (.int b3), .val (.int (2 : Int32)), .val (.int (128 : Int32)), .val (.int (191 : Int32)), .val (.int (2 : Int32))]) rfl ?_
          refine XS.goto X5.here hx rfl (pc0 := 367) (pc' := 453) rfl (hb hby at_367) (by decide) (by decide) ?_
          exact k
        refine ⟨T5, _, (2 : Int32), (128 : Int32), (191 : Int32), X5, e5, N5, fun t k => pre6 t ?_⟩
        have eE : own_E xx.toInt b1.toInt b2.toInt b3.toInt av.toInt = (2 : Int32) := (lf0_1 (xx.toInt) (b1.toInt) (b2.toInt) (b3.toInt) (av.toInt) r_xx r_b1 r_b2 r_b3 r_av i1a i1b i_hc329_3 i5a i5b)
        rw [eE] at k
        exact k
      · rw [v5] at st5
        have pre7 : ∀ t, Steps p.tables e below (T5.setTop (mkF m 453 #[.val (.int p1), .val (.int p2), .val (.int p3), .val (.int p4), .val (.int p5), .val (.int p6), .val (.int of), .val (.ref b), .val (.int lim), .val (.int av), .val (.int xx), .val (.int b1), .val (.int b2), .val (.int b3), .val (.int (2 : Int32)), .val (.int (128 : Int32)), .val (.int (191 : Int32)), .val (.int (-2 : Int32))] [])) t → Steps p.tables e below (T0.setTop (mkF m 146 #[.val (.int p1), .val (.int p2), .val (.int p3), .val (.int p4), .val (.int p5), .val (.int p6), .val (.int of), .val (.ref b), .val (.int lim), .val (.int av), .val (.int xx), .val (.int b1), .val (.int b2), .val (.int b3), .unset, .unset, .unset, .unset] [])) t := by
          intro t k
          refine pre2 t ?_
          show Steps p.tables e below (T1.setTop (mkF m 329 #[.val (.int p1), .val (.int p2), .val (.int p3), .val (.int p4), .val (.int p5), .val (.int p6), .val (.int of), .val (.ref b), .val (.int lim), .val (.int av), .val (.int xx), .val (.int b1), .val (.int b2), .val (.int b3), .val (.int (2 : Int32)), .val (.int (128 : Int32)), .val (.int (191 : Int32)), .unset] [(.int (1 : Int32)), (.int av)])) _
          refine XS.icmpYes X1.here hx rfl (pc0 := 329) (pc' := 339) rfl (hb hby at_329) rfl (flt hc329_3).2.1 (by decide) (by decide) ?_
          refine XS.iload X1.here hx rfl (hb hby at_339) rfl ?_
          refine XS.iload X1.here hx rfl (hb hby at_341) rfl ?_
          refine XS.iload X1.here hx rfl (hb hby at_343) rfl ?_
          show Steps p.tables e below (T1.setTop (mkF m 345 #[.val (.int p1), .val (.int p2), .val (.int p3), .val (.int p4), .val (.int p5), .val (.int p6), .val (.int of), .val (.ref b), .val (.int lim), .val (.int av), .val (.int xx), .val (.int b1), .val (.int b2), .val (.int b3), .val (.int (2 : Int32)), .val (.int (128 : Int32)), .val (.int (191 : Int32)), .unset] [(.int (191 : Int32)), (.int (128 : Int32)), (.int b1)])) _
          refine st5 _ ?_
          show Steps p.tables e below (T5.setTop (mkF m 348 #[.val (.int p1), .val (.int p2), .val (.int p3), .val (.int p4), .val (.int p5), .val (.int p6), .val (.int of), .val (.ref b), .val (.int lim), .val (.int av), .val (.int xx), .val (.int b1), .val (.int b2), .val (.int b3), .val (.int (2 : Int32)), .val (.int (128 : Int32)), .val (.int (191 : Int32)), .unset] [(.int (0 : Int32))])) _
          refine XS.ifNo X5.here hx rfl (hb hby at_348) rfl ((if0 _ _).trans (teq (by decide : (0 : Int32) = (0 : Int32))).2) ?_
          refine XS.bipush X5.here hx rfl (hb hby at_351) ?_
          refine XS.istore X5.here hx rfl (hb hby at_353) rfl (l' := #[.val (.int p1), .val (.int p2), .val (.int p3), .val (.int p4), .val (.int p5), .val (.int p6), .val (.int of), .val (.ref b), .val (.int lim), .val (.int av), .val (.int xx), .val (.int b1), .val (.int b2), .val (.int b3), .val (.int (2 : Int32)), .val (.int (128 : Int32)), .val (.int (191 : Int32)), .val (.int (-2 : Int32))]) rfl ?_
          refine XS.goto X5.here hx rfl (pc0 := 355) (pc' := 453) rfl (hb hby at_355) (by decide) (by decide) ?_
          exact k
        refine ⟨T5, _, (2 : Int32), (128 : Int32), (191 : Int32), X5, e5, N5, fun t k => pre7 t ?_⟩
        have eE : own_E xx.toInt b1.toInt b2.toInt b3.toInt av.toInt = (-2 : Int32) := (lf0_2 (xx.toInt) (b1.toInt) (b2.toInt) (b3.toInt) (av.toInt) r_xx r_b1 r_b2 r_b3 r_av i1a i1b i_hc329_3 i5)
        rw [eE] at k
        exact k
  · rw [v1] at st1
    have pre8 : ∀ t, Steps p.tables e below (T1.setTop (mkF m 181 #[.val (.int p1), .val (.int p2), .val (.int p3), .val (.int p4), .val (.int p5), .val (.int p6), .val (.int of), .val (.ref b), .val (.int lim), .val (.int av), .val (.int xx), .val (.int b1), .val (.int b2), .val (.int b3), .unset, .val (.int (128 : Int32)), .val (.int (191 : Int32)), .unset] [(.int (224 : Int32)), (.int xx)])) t → Steps p.tables e below (T0.setTop (mkF m 146 #[.val (.int p1), .val (.int p2), .val (.int p3), .val (.int p4), .val (.int p5), .val (.int p6), .val (.int of), .val (.ref b), .val (.int lim), .val (.int av), .val (.int xx), .val (.int b1), .val (.int b2), .val (.int b3), .unset, .unset, .unset, .unset] [])) t := by
      intro t k
      refine pre0 t ?_
      show Steps p.tables e below (T0.setTop (mkF m 146 #[.val (.int p1), .val (.int p2), .val (.int p3), .val (.int p4), .val (.int p5), .val (.int p6), .val (.int of), .val (.ref b), .val (.int lim), .val (.int av), .val (.int xx), .val (.int b1), .val (.int b2), .val (.int b3), .unset, .unset, .unset, .unset] [])) _
      refine XS.sipush X0.here hx rfl (hb hby at_146) ?_
      refine XS.istore X0.here hx rfl (hb hby at_149) rfl (l' := #[.val (.int p1), .val (.int p2), .val (.int p3), .val (.int p4), .val (.int p5), .val (.int p6), .val (.int of), .val (.ref b), .val (.int lim), .val (.int av), .val (.int xx), .val (.int b1), .val (.int b2), .val (.int b3), .unset, .val (.int (128 : Int32)), .unset, .unset]) rfl ?_
      refine XS.sipush X0.here hx rfl (hb hby at_151) ?_
      refine XS.istore X0.here hx rfl (hb hby at_154) rfl (l' := #[.val (.int p1), .val (.int p2), .val (.int p3), .val (.int p4), .val (.int p5), .val (.int p6), .val (.int of), .val (.ref b), .val (.int lim), .val (.int av), .val (.int xx), .val (.int b1), .val (.int b2), .val (.int b3), .unset, .val (.int (128 : Int32)), .val (.int (191 : Int32)), .unset]) rfl ?_
      show Steps p.tables e below (T0.setTop (mkF m 156 #[.val (.int p1), .val (.int p2), .val (.int p3), .val (.int p4), .val (.int p5), .val (.int p6), .val (.int of), .val (.ref b), .val (.int lim), .val (.int av), .val (.int xx), .val (.int b1), .val (.int b2), .val (.int b3), .unset, .val (.int (128 : Int32)), .val (.int (191 : Int32)), .unset] [])) _
      refine XS.iload X0.here hx rfl (hb hby at_156) rfl ?_
      refine XS.sipush X0.here hx rfl (hb hby at_158) ?_
      refine XS.sipush X0.here hx rfl (hb hby at_161) ?_
      show Steps p.tables e below (T0.setTop (mkF m 164 #[.val (.int p1), .val (.int p2), .val (.int p3), .val (.int p4), .val (.int p5), .val (.int p6), .val (.int of), .val (.ref b), .val (.int lim), .val (.int av), .val (.int xx), .val (.int b1), .val (.int b2), .val (.int b3), .unset, .val (.int (128 : Int32)), .val (.int (191 : Int32)), .unset] [(.int (223 : Int32)), (.int (194 : Int32)), (.int xx)])) _
      refine st1 _ ?_
      show Steps p.tables e below (T1.setTop (mkF m 167 #[.val (.int p1), .val (.int p2), .val (.int p3), .val (.int p4), .val (.int p5), .val (.int p6), .val (.int of), .val (.ref b), .val (.int lim), .val (.int av), .val (.int xx), .val (.int b1), .val (.int b2), .val (.int b3), .unset, .val (.int (128 : Int32)), .val (.int (191 : Int32)), .unset] [(.int (0 : Int32))])) _
      refine XS.ifYes X1.here hx rfl (pc0 := 167) (pc' := 176) rfl (hb hby at_167) rfl ((if0 _ _).trans (teq (by decide : (0 : Int32) = (0 : Int32))).1) (by decide) (by decide) ?_
      refine XS.iload X1.here hx rfl (hb hby at_176) rfl ?_
      refine XS.sipush X1.here hx rfl (hb hby at_178) ?_
      exact k
    by_cases hc181_9 : xx = (224 : Int32)
    · have i_hc181_9 : xx.toInt = (224 : Int32).toInt := (Int32.toInt_inj.symm).mp hc181_9
      have pre10 : ∀ t, Steps p.tables e below (T1.setTop (mkF m 329 #[.val (.int p1), .val (.int p2), .val (.int p3), .val (.int p4), .val (.int p5), .val (.int p6), .val (.int of), .val (.ref b), .val (.int lim), .val (.int av), .val (.int xx), .val (.int b1), .val (.int b2), .val (.int b3), .val (.int (3 : Int32)), .val (.int (160 : Int32)), .val (.int (191 : Int32)), .unset] [(.int (1 : Int32)), (.int av)])) t → Steps p.tables e below (T0.setTop (mkF m 146 #[.val (.int p1), .val (.int p2), .val (.int p3), .val (.int p4), .val (.int p5), .val (.int p6), .val (.int of), .val (.ref b), .val (.int lim), .val (.int av), .val (.int xx), .val (.int b1), .val (.int b2), .val (.int b3), .unset, .unset, .unset, .unset] [])) t := by
        intro t k
        refine pre8 t ?_
        show Steps p.tables e below (T1.setTop (mkF m 181 #[.val (.int p1), .val (.int p2), .val (.int p3), .val (.int p4), .val (.int p5), .val (.int p6), .val (.int of), .val (.ref b), .val (.int lim), .val (.int av), .val (.int xx), .val (.int b1), .val (.int b2), .val (.int b3), .unset, .val (.int (128 : Int32)), .val (.int (191 : Int32)), .unset] [(.int (224 : Int32)), (.int xx)])) _
        refine XS.icmpNo X1.here hx rfl (hb hby at_181) rfl (teq hc181_9).2 ?_
        refine XS.iconst X1.here hx rfl (hb hby at_184) ?_
        refine XS.istore X1.here hx rfl (hb hby at_185) rfl (l' := #[.val (.int p1), .val (.int p2), .val (.int p3), .val (.int p4), .val (.int p5), .val (.int p6), .val (.int of), .val (.ref b), .val (.int lim), .val (.int av), .val (.int xx), .val (.int b1), .val (.int b2), .val (.int b3), .val (.int (3 : Int32)), .val (.int (128 : Int32)), .val (.int (191 : Int32)), .unset]) rfl ?_
        refine XS.sipush X1.here hx rfl (hb hby at_187) ?_
        show Steps p.tables e below (T1.setTop (mkF m 190 #[.val (.int p1), .val (.int p2), .val (.int p3), .val (.int p4), .val (.int p5), .val (.int p6), .val (.int of), .val (.ref b), .val (.int lim), .val (.int av), .val (.int xx), .val (.int b1), .val (.int b2), .val (.int b3), .val (.int (3 : Int32)), .val (.int (128 : Int32)), .val (.int (191 : Int32)), .unset] [(.int (160 : Int32))])) _
        refine XS.istore X1.here hx rfl (hb hby at_190) rfl (l' := #[.val (.int p1), .val (.int p2), .val (.int p3), .val (.int p4), .val (.int p5), .val (.int p6), .val (.int of), .val (.ref b), .val (.int lim), .val (.int av), .val (.int xx), .val (.int b1), .val (.int b2), .val (.int b3), .val (.int (3 : Int32)), .val (.int (160 : Int32)), .val (.int (191 : Int32)), .unset]) rfl ?_
        refine XS.goto X1.here hx rfl (pc0 := 192) (pc' := 315) rfl (hb hby at_192) (by decide) (by decide) ?_
        refine XS.iload X1.here hx rfl (hb hby at_315) rfl ?_
        show Steps p.tables e below (T1.setTop (mkF m 317 #[.val (.int p1), .val (.int p2), .val (.int p3), .val (.int p4), .val (.int p5), .val (.int p6), .val (.int of), .val (.ref b), .val (.int lim), .val (.int av), .val (.int xx), .val (.int b1), .val (.int b2), .val (.int b3), .val (.int (3 : Int32)), .val (.int (160 : Int32)), .val (.int (191 : Int32)), .unset] [(.int (3 : Int32))])) _
        refine XS.ifYes X1.here hx rfl (pc0 := 317) (pc' := 326) rfl (hb hby at_317) rfl ((if0 _ _).trans (flt (by decide : ¬ ((3 : Int32) < (0 : Int32)))).2.1) (by decide) (by decide) ?_
        refine XS.iload X1.here hx rfl (hb hby at_326) rfl ?_
        refine XS.iconst X1.here hx rfl (hb hby at_328) ?_
        exact k
      by_cases hc329_11 : av < (1 : Int32)
      · have i_hc329_11 : av.toInt < (1 : Int32).toInt := (Int32.lt_iff_toInt_lt).mp hc329_11
        have pre12 : ∀ t, Steps p.tables e below (T1.setTop (mkF m 453 #[.val (.int p1), .val (.int p2), .val (.int p3), .val (.int p4), .val (.int p5), .val (.int p6), .val (.int of), .val (.ref b), .val (.int lim), .val (.int av), .val (.int xx), .val (.int b1), .val (.int b2), .val (.int b3), .val (.int (3 : Int32)), .val (.int (160 : Int32)), .val (.int (191 : Int32)), .val (.int (-2147483648 : Int32))] [])) t → Steps p.tables e below (T0.setTop (mkF m 146 #[.val (.int p1), .val (.int p2), .val (.int p3), .val (.int p4), .val (.int p5), .val (.int p6), .val (.int of), .val (.ref b), .val (.int lim), .val (.int av), .val (.int xx), .val (.int b1), .val (.int b2), .val (.int b3), .unset, .unset, .unset, .unset] [])) t := by
          intro t k
          refine pre10 t ?_
          show Steps p.tables e below (T1.setTop (mkF m 329 #[.val (.int p1), .val (.int p2), .val (.int p3), .val (.int p4), .val (.int p5), .val (.int p6), .val (.int of), .val (.ref b), .val (.int lim), .val (.int av), .val (.int xx), .val (.int b1), .val (.int b2), .val (.int b3), .val (.int (3 : Int32)), .val (.int (160 : Int32)), .val (.int (191 : Int32)), .unset] [(.int (1 : Int32)), (.int av)])) _
          refine XS.icmpNo X1.here hx rfl (hb hby at_329) rfl (tlt hc329_11).2.1 ?_
          show Steps p.tables e below (T1.setTop (mkF m 332 #[.val (.int p1), .val (.int p2), .val (.int p3), .val (.int p4), .val (.int p5), .val (.int p6), .val (.int of), .val (.ref b), .val (.int lim), .val (.int av), .val (.int xx), .val (.int b1), .val (.int b2), .val (.int b3), .val (.int (3 : Int32)), .val (.int (160 : Int32)), .val (.int (191 : Int32)), .unset] [])) _
          refine X1.ldcInt hx hown (mvT hZ (hw _ (List.mem_of_getElem? (i := 9) rfl))) (g := (mkF m 332 #[.val (.int p1), .val (.int p2), .val (.int p3), .val (.int p4), .val (.int p5), .val (.int p6), .val (.int of), .val (.ref b), .val (.int lim), .val (.int av), .val (.int xx), .val (.int b1), .val (.int b2), .val (.int b3), .val (.int (3 : Int32)), .val (.int (160 : Int32)), .val (.int (191 : Int32)), .unset] [])) rfl (hb hby at_332) _ ?_
          refine XS.istore X1.here hx rfl (hb hby at_334) rfl (l' := #[.val (.int p1), .val (.int p2), .val (.int p3), .val (.int p4), .val (.int p5), .val (.int p6), .val (.int of), .val (.ref b), .val (.int lim), .val (.int av), .val (.int xx), .val (.int b1), .val (.int b2), .val (.int b3), .val (.int (3 : Int32)), .val (.int (160 : Int32)), .val (.int (191 : Int32)), .val (.int (-2147483648 : Int32))]) rfl ?_
          refine XS.goto X1.here hx rfl (pc0 := 336) (pc' := 453) rfl (hb hby at_336) (by decide) (by decide) ?_
          exact k
        refine ⟨T1, _, (3 : Int32), (160 : Int32), (191 : Int32), X1, e1, N1, fun t k => pre12 t ?_⟩
        have eE : own_E xx.toInt b1.toInt b2.toInt b3.toInt av.toInt = (-2147483648 : Int32) := (lf0_3 (xx.toInt) (b1.toInt) (b2.toInt) (b3.toInt) (av.toInt) r_xx r_b1 r_b2 r_b3 r_av i1 i_hc181_9 i_hc329_11)
        rw [eE] at k
        exact k
      · have i_hc329_11 : ¬ (av.toInt < (1 : Int32).toInt) := fun q => hc329_11 ((Int32.lt_iff_toInt_lt).mpr q)
        obtain ⟨_, _, ⟨T13, L13, k13, n13⟩, -, X13, ⟨Lc13, hQ13, l13, y13, z13⟩, st13⟩ := Jvm.LawKit.callS X1 hx (y := (⟨"com/example/kindgen/kindgen/runtime/Utf8CursorSequenceLengthPinLaw", "in", "(III)Z"⟩ : MethodName)) hown (mvT hZ (hw _ (List.mem_of_getElem? (i := 1) rfl))) (mvT hZ (hw _ (List.mem_of_getElem? (i := 2) rfl))) (mvT hZ (hw _ (List.mem_of_getElem? (i := 3) rfl))) (mvT hZ (hw _ (List.mem_of_getElem? (i := 4) rfl))) (by decide) (backOf (W := 0) (rm1 l Z a0 hw [] b1 (160 : Int32) (191 : Int32) h0 n0 Z0) hZ (hw _ (List.mem_of_getElem? (i := 4) rfl)) (hw _ (List.mem_of_getElem? (i := 3) rfl)) (by decide) (by decide)) (g := (mkF m 345 #[.val (.int p1), .val (.int p2), .val (.int p3), .val (.int p4), .val (.int p5), .val (.int p6), .val (.int of), .val (.ref b), .val (.int lim), .val (.int av), .val (.int xx), .val (.int b1), .val (.int b2), .val (.int b3), .val (.int (3 : Int32)), .val (.int (160 : Int32)), .val (.int (191 : Int32)), .unset] [(.int (191 : Int32)), (.int (160 : Int32)), (.int b1)])) rfl (by rw [hml]; rfl) (argsL := [(.int b1), (.int (160 : Int32)), (.int (191 : Int32))]) (rest := []) (lenOf pd_0 rfl) rfl (by show 2 * 0 + _ ≤ _; exact Nat.le_of_eq rfl) (hb hby at_345) (fun _ _ => ⟨rfl, e1, (by decide : 1 + 0 ≤ _), (by decide : 5 + 0 ≤ _)⟩)
        dsimp only [Pt.U, Pt.locs, Pt.cells, Pt.slots] at X13 l13 y13 z13 st13 hQ13
        subst l13 y13 z13
        obtain ⟨rfl, N13q, e13⟩ := hQ13
        have N13 := Fr.app N1 N13q
        rcases own_in b1 (160 : Int32) (191 : Int32) with ⟨v13, i13a, i13b⟩ | ⟨v13, i13⟩
        · rw [v13] at st13
          have pre14 : ∀ t, Steps p.tables e below (T13.setTop (mkF m 373 #[.val (.int p1), .val (.int p2), .val (.int p3), .val (.int p4), .val (.int p5), .val (.int p6), .val (.int of), .val (.ref b), .val (.int lim), .val (.int av), .val (.int xx), .val (.int b1), .val (.int b2), .val (.int b3), .val (.int (3 : Int32)), .val (.int (160 : Int32)), .val (.int (191 : Int32)), .unset] [(.int (2 : Int32)), (.int av)])) t → Steps p.tables e below (T0.setTop (mkF m 146 #[.val (.int p1), .val (.int p2), .val (.int p3), .val (.int p4), .val (.int p5), .val (.int p6), .val (.int of), .val (.ref b), .val (.int lim), .val (.int av), .val (.int xx), .val (.int b1), .val (.int b2), .val (.int b3), .unset, .unset, .unset, .unset] [])) t := by
            intro t k
            refine pre10 t ?_
            show Steps p.tables e below (T1.setTop (mkF m 329 #[.val (.int p1), .val (.int p2), .val (.int p3), .val (.int p4), .val (.int p5), .val (.int p6), .val (.int of), .val (.ref b), .val (.int lim), .val (.int av), .val (.int xx), .val (.int b1), .val (.int b2), .val (.int b3), .val (.int (3 : Int32)), .val (.int (160 : Int32)), .val (.int (191 : Int32)), .unset] [(.int (1 : Int32)), (.int av)])) _
            refine XS.icmpYes X1.here hx rfl (pc0 := 329) (pc' := 339) rfl (hb hby at_329) rfl (flt hc329_11).2.1 (by decide) (by decide) ?_
            refine XS.iload X1.here hx rfl (hb hby at_339) rfl ?_
            refine XS.iload X1.here hx rfl (hb hby at_341) rfl ?_
            refine XS.iload X1.here hx rfl (hb hby at_343) rfl ?_
            show Steps p.tables e below (T1.setTop (mkF m 345 #[.val (.int p1), .val (.int p2), .val (.int p3), .val (.int p4), .val (.int p5), .val (.int p6), .val (.int of), .val (.ref b), .val (.int lim), .val (.int av), .val (.int xx), .val (.int b1), .val (.int b2), .val (.int b3), .val (.int (3 : Int32)), .val (.int (160 : Int32)), .val (.int (191 : Int32)), .unset] [(.int (191 : Int32)), (.int (160 : Int32)), (.int b1)])) _
            refine st13 _ ?_
            show Steps p.tables e below (T13.setTop (mkF m 348 #[.val (.int p1), .val (.int p2), .val (.int p3), .val (.int p4), .val (.int p5), .val (.int p6), .val (.int of), .val (.ref b), .val (.int lim), .val (.int av), .val (.int xx), .val (.int b1), .val (.int b2), .val (.int b3), .val (.int (3 : Int32)), .val (.int (160 : Int32)), .val (.int (191 : Int32)), .unset] [(.int (1 : Int32))])) _
            refine XS.ifYes X13.here hx rfl (pc0 := 348) (pc' := 358) rfl (hb hby at_348) rfl ((if0 _ _).trans (feq (by decide : ¬ ((1 : Int32) = (0 : Int32)))).2) (by decide) (by decide) ?_
            refine XS.iload X13.here hx rfl (hb hby at_358) rfl ?_
            refine XS.iconst X13.here hx rfl (hb hby at_360) ?_
            show Steps p.tables e below (T13.setTop (mkF m 361 #[.val (.int p1), .val (.int p2), .val (.int p3), .val (.int p4), .val (.int p5), .val (.int p6), .val (.int of), .val (.ref b), .val (.int lim), .val (.int av), .val (.int xx), .val (.int b1), .val (.int b2), .val (.int b3), .val (.int (3 : Int32)), .val (.int (160 : Int32)), .val (.int (191 : Int32)), .unset] [(.int (2 : Int32)), (.int (3 : Int32))])) _
            refine XS.icmpYes X13.here hx rfl (pc0 := 361) (pc' := 370) rfl (hb hby at_361) rfl (feq (by decide : ¬ ((3 : Int32) = (2 : Int32)))).2 (by decide) (by decide) ?_
            refine XS.iload X13.here hx rfl (hb hby at_370) rfl ?_
            refine XS.iconst X13.here hx rfl (hb hby at_372) ?_
            exact k
          by_cases hc373_15 : av < (2 : Int32)
          · have i_hc373_15 : av.toInt < (2 : Int32).toInt := (Int32.lt_iff_toInt_lt).mp hc373_15
            have pre16 : ∀ t, Steps p.tables e below (T13.setTop (mkF m 453 #[.val (.int p1), .val (.int p2), .val (.int p3), .val (.int p4), .val (.int p5), .val (.int p6), .val (.int of), .val (.ref b), .val (.int lim), .val (.int av), .val (.int xx), .val (.int b1), .val (.int b2), .val (.int b3), .val (.int (3 : Int32)), .val (.int (160 : Int32)), .val (.int (191 : Int32)), .val (.int (-2147483648 : Int32))] [])) t → Steps p.tables e below (T0.setTop (mkF m 146 #[.val (.int p1), .val (.int p2), .val (.int p3), .val (.int p4), .val (.int p5), .val (.int p6), .val (.int of), .val (.ref b), .val (.int lim), .val (.int av), .val (.int xx), .val (.int b1), .val (.int b2), .val (.int b3), .unset, .unset, .unset, .unset] [])) t := by
              intro t k
              refine pre14 t ?_
              show Steps p.tables e below (T13.setTop (mkF m 373 #[.val (.int p1), .val (.int p2), .val (.int p3), .val (.int p4), .val (.int p5), .val (.int p6), .val (.int of), .val (.ref b), .val (.int lim), .val (.int av), .val (.int xx), .val (.int b1), .val (.int b2), .val (.int b3), .val (.int (3 : Int32)), .val (.int (160 : Int32)), .val (.int (191 : Int32)), .unset] [(.int (2 : Int32)), (.int av)])) _
              refine XS.icmpNo X13.here hx rfl (hb hby at_373) rfl (tlt hc373_15).2.1 ?_
              show Steps p.tables e below (T13.setTop (mkF m 376 #[.val (.int p1), .val (.int p2), .val (.int p3), .val (.int p4), .val (.int p5), .val (.int p6), .val (.int of), .val (.ref b), .val (.int lim), .val (.int av), .val (.int xx), .val (.int b1), .val (.int b2), .val (.int b3), .val (.int (3 : Int32)), .val (.int (160 : Int32)), .val (.int (191 : Int32)), .unset] [])) _
              refine X13.ldcInt hx hown (mvT hZ (hw _ (List.mem_of_getElem? (i := 9) rfl))) (g := (mkF m 376 #[.val (.int p1), .val (.int p2), .val (.int p3), .val (.int p4), .val (.int p5), .val (.int p6), .val (.int of), .val (.ref b), .val (.int lim), .val (.int av), .val (.int xx), .val (.int b1), .val (.int b2), .val (.int b3), .val (.int (3 : Int32)), .val (.int (160 : Int32)), .val (.int (191 : Int32)), .unset] [])) rfl (hb hby at_376) _ ?_
              refine XS.istore X13.here hx rfl (hb hby at_378) rfl (l' := #[.val (.int p1), .val (.int p2), .val (.int p3), .val (.int p4), .val (.int p5), .val (.int p6), .val (.int of), .val (.ref b), .val (.int lim), .val (.int av), .val (.int xx), .val (.int b1), .val (.int b2), .val (.int b3), .val (.int (3 : Int32)), .val (.int (160 : Int32)), .val (.int (191 : Int32)), .val (.int (-2147483648 : Int32))]) rfl ?_
              refine XS.goto X13.here hx rfl (pc0 := 380) (pc' := 453) rfl (hb hby at_380) (by decide) (by decide) ?_
              exact k
            refine ⟨T13, _, (3 : Int32), (160 : Int32), (191 : Int32), X13, e13, N13, fun t k => pre16 t ?_⟩
            have eE : own_E xx.toInt b1.toInt b2.toInt b3.toInt av.toInt = (-2147483648 : Int32) := (lf0_4 (xx.toInt) (b1.toInt) (b2.toInt) (b3.toInt) (av.toInt) r_xx r_b1 r_b2 r_b3 r_av i1 i_hc181_9 i_hc329_11 i13a i13b i_hc373_15)
            rw [eE] at k
            exact k
          · have i_hc373_15 : ¬ (av.toInt < (2 : Int32).toInt) := fun q => hc373_15 ((Int32.lt_iff_toInt_lt).mpr q)
            obtain ⟨_, _, ⟨T17, L17, k17, n17⟩, -, X17, ⟨Lc17, hQ17, l17, y17, z17⟩, st17⟩ := Jvm.LawKit.callS X13 hx (y := (⟨"com/example/kindgen/kindgen/runtime/Utf8CursorSequenceLengthPinLaw", "in", "(III)Z"⟩ : MethodName)) hown (mvT hZ (hw _ (List.mem_of_getElem? (i := 1) rfl))) (mvT hZ (hw _ (List.mem_of_getElem? (i := 2) rfl))) (mvT hZ (hw _ (List.mem_of_getElem? (i := 3) rfl))) (mvT hZ (hw _ (List.mem_of_getElem? (i := 4) rfl))) (by decide) (backOf (W := 0) (rm1 l Z a0 hw [] b2 (128 : Int32) (191 : Int32) h0 n0 Z0) hZ (hw _ (List.mem_of_getElem? (i := 4) rfl)) (hw _ (List.mem_of_getElem? (i := 3) rfl)) (by decide) (by decide)) (g := (mkF m 391 #[.val (.int p1), .val (.int p2), .val (.int p3), .val (.int p4), .val (.int p5), .val (.int p6), .val (.int of), .val (.ref b), .val (.int lim), .val (.int av), .val (.int xx), .val (.int b1), .val (.int b2), .val (.int b3), .val (.int (3 : Int32)), .val (.int (160 : Int32)), .val (.int (191 : Int32)), .unset] [(.int (191 : Int32)), (.int (128 : Int32)), (.int b2)])) rfl (by rw [hml]; rfl) (argsL := [(.int b2), (.int (128 : Int32)), (.int (191 : Int32))]) (rest := []) (lenOf pd_0 rfl) rfl (by show 2 * 0 + _ ≤ _; exact Nat.le_of_eq rfl) (hb hby at_391) (fun _ _ => ⟨rfl, e13, (by decide : 1 + 0 ≤ _), (by decide : 5 + 0 ≤ _)⟩)
            dsimp only [Pt.U, Pt.locs, Pt.cells, Pt.slots] at X17 l17 y17 z17 st17 hQ17
            subst l17 y17 z17
            obtain ⟨rfl, N17q, e17⟩ := hQ17
            have N17 := Fr.app N13 N17q
            rcases own_in b2 (128 : Int32) (191 : Int32) with ⟨v17, i17a, i17b⟩ | ⟨v17, i17⟩
            · rw [v17] at st17
              have pre18 : ∀ t, Steps p.tables e below (T17.setTop (mkF m 453 #[.val (.int p1), .val (.int p2), .val (.int p3), .val (.int p4), .val (.int p5), .val (.int p6), .val (.int of), .val (.ref b), .val (.int lim), .val (.int av), .val (.int xx), .val (.int b1), .val (.int b2), .val (.int b3), .val (.int (3 : Int32)), .val (.int (160 : Int32)), .val (.int (191 : Int32)), .val (.int (3 : Int32))] [])) t → Steps p.tables e below (T0.setTop (mkF m 146 #[.val (.int p1), .val (.int p2), .val (.int p3), .val (.int p4), .val (.int p5), .val (.int p6), .val (.int of), .val (.ref b), .val (.int lim), .val (.int av), .val (.int xx), .val (.int b1), .val (.int b2), .val (.int b3), .unset, .unset, .unset, .unset] [])) t := by
                intro t k
                refine pre14 t ?_
                show Steps p.tables e below (T13.setTop (mkF m 373 #[.val (.int p1), .val (.int p2), .val (.int p3), .val (.int p4), .val (.int p5), .val (.int p6), .val (.int of), .val (.ref b), .val (.int lim), .val (.int av), .val (.int xx), .val (.int b1), .val (.int b2), .val (.int b3), .val (.int (3 : Int32)), .val (.int (160 : Int32)), .val (.int (191 : Int32)), .unset] [(.int (2 : Int32)), (.int av)])) _
                refine XS.icmpYes X13.here hx rfl (pc0 := 373) (pc' := 383) rfl (hb hby at_373) rfl (flt hc373_15).2.1 (by decide) (by decide) ?_
                refine XS.iload X13.here hx rfl (hb hby at_383) rfl ?_
                refine XS.sipush X13.here hx rfl (hb hby at_385) ?_
                refine XS.sipush X13.here hx rfl (hb hby at_388) ?_
                show Steps p.tables e below (T13.setTop (mkF m 391 #[.val (.int p1), .val (.int p2), .val (.int p3), .val (.int p4), .val (.int p5), .val (.int p6), .val (.int of), .val (.ref b), .val (.int lim), .val (.int av), .val (.int xx), .val (.int b1), .val (.int b2), .val (.int b3), .val (.int (3 : Int32)), .val (.int (160 : Int32)), .val (.int (191 : Int32)), .unset] [(.int (191 : Int32)), (.int (128 : Int32)), (.int b2)])) _
                refine st17 _ ?_
                show Steps p.tables e below (T17.setTop (mkF m 394 #[.val (.int p1), .val (.int p2), .val (.int p3), .val (.int p4), .val (.int p5), .val (.int p6), .val (.int of), .val (.ref b), .val (.int lim), .val (.int av), .val (.int xx), .val (.int b1), .val (.int b2), .val (.int b3), .val (.int (3 : Int32)), .val (.int (160 : Int32)), .val (.int (191 : Int32)), .unset] [(.int (1 : Int32))])) _
                refine XS.ifYes X17.here hx rfl (pc0 := 394) (pc' := 404) rfl (hb hby at_394) rfl ((if0 _ _).trans (feq (by decide : ¬ ((1 : Int32) = (0 : Int32)))).2) (by decide) (by decide) ?_
                refine XS.iload X17.here hx rfl (hb hby at_404) rfl ?_
                refine XS.iconst X17.here hx rfl (hb hby at_406) ?_
                show Steps p.tables e below (T17.setTop (mkF m 407 #[.val (.int p1), .val (.int p2), .val (.int p3), .val (.int p4), .val (.int p5), .val (.int p6), .val (.int of), .val (.ref b), .val (.int lim), .val (.int av), .val (.int xx), .val (.int b1), .val (.int b2), .val (.int b3), .val (.int (3 : Int32)), .val (.int (160 : Int32)), .val (.int (191 : Int32)), .unset] [(.int (3 : Int32)), (.int (3 : Int32))])) _
                refine XS.icmpNo X17.here hx rfl (hb hby at_407) rfl (teq (by decide : (3 : Int32) = (3 : Int32))).2 ?_
                refine XS.iconst X17.here hx rfl (hb hby at_410) ?_
                refine XS.istore X17.here hx rfl (hb hby at_411) rfl (l' := #[.val (.int p1), .val (.int p2), .val (.int p3), .val (.int p4), .val (.int p5), .val (.int p6), .val (.int of), .val (.ref b), .val (.int lim), .val (.int av), .val (.int xx), .val (.int b1), .val (.int b2), .val (.int b3), .val (.int (3 : Int32)), .val (.int (160 : Int32)), .val (.int (191 : Int32)), .val (.int (3 : Int32))]) rfl ?_
                refine XS.goto X17.here hx rfl (pc0 := 413) (pc' := 453) rfl (hb hby at_413) (by decide) (by decide) ?_
                exact k
              refine ⟨T17, _, (3 : Int32), (160 : Int32), (191 : Int32), X17, e17, N17, fun t k => pre18 t ?_⟩
              have eE : own_E xx.toInt b1.toInt b2.toInt b3.toInt av.toInt = (3 : Int32) := (lf0_5 (xx.toInt) (b1.toInt) (b2.toInt) (b3.toInt) (av.toInt) r_xx r_b1 r_b2 r_b3 r_av i1 i_hc181_9 i_hc329_11 i13a i13b i_hc373_15 i17a i17b)
              rw [eE] at k
              exact k
            · rw [v17] at st17
              have pre19 : ∀ t, Steps p.tables e below (T17.setTop (mkF m 453 #[.val (.int p1), .val (.int p2), .val (.int p3), .val (.int p4), .val (.int p5), .val (.int p6), .val (.int of), .val (.ref b), .val (.int lim), .val (.int av), .val (.int xx), .val (.int b1), .val (.int b2), .val (.int b3), .val (.int (3 : Int32)), .val (.int (160 : Int32)), .val (.int (191 : Int32)), .val (.int (-3 : Int32))] [])) t → Steps p.tables e below (T0.setTop (mkF m 146 #[.val (.int p1), .val (.int p2), .val (.int p3), .val (.int p4), .val (.int p5), .val (.int p6), .val (.int of), .val (.ref b), .val (.int lim), .val (.int av), .val (.int xx), .val (.int b1), .val (.int b2), .val (.int b3), .unset, .unset, .unset, .unset] [])) t := by
                intro t k
                refine pre14 t ?_
                show Steps p.tables e below (T13.setTop (mkF m 373 #[.val (.int p1), .val (.int p2), .val (.int p3), .val (.int p4), .val (.int p5), .val (.int p6), .val (.int of), .val (.ref b), .val (.int lim), .val (.int av), .val (.int xx), .val (.int b1), .val (.int b2), .val (.int b3), .val (.int (3 : Int32)), .val (.int (160 : Int32)), .val (.int (191 : Int32)), .unset] [(.int (2 : Int32)), (.int av)])) _
                refine XS.icmpYes X13.here hx rfl (pc0 := 373) (pc' := 383) rfl (hb hby at_373) rfl (flt hc373_15).2.1 (by decide) (by decide) ?_
                refine XS.iload X13.here hx rfl (hb hby at_383) rfl ?_
                refine XS.sipush X13.here hx rfl (hb hby at_385) ?_
                refine XS.sipush X13.here hx rfl (hb hby at_388) ?_
                show Steps p.tables e below (T13.setTop (mkF m 391 #[.val (.int p1), .val (.int p2), .val (.int p3), .val (.int p4), .val (.int p5), .val (.int p6), .val (.int of), .val (.ref b), .val (.int lim), .val (.int av), .val (.int xx), .val (.int b1), .val (.int b2), .val (.int b3), .val (.int (3 : Int32)), .val (.int (160 : Int32)), .val (.int (191 : Int32)), .unset] [(.int (191 : Int32)), (.int (128 : Int32)), (.int b2)])) _
                refine st17 _ ?_
                show Steps p.tables e below (T17.setTop (mkF m 394 #[.val (.int p1), .val (.int p2), .val (.int p3), .val (.int p4), .val (.int p5), .val (.int p6), .val (.int of), .val (.ref b), .val (.int lim), .val (.int av), .val (.int xx), .val (.int b1), .val (.int b2), .val (.int b3), .val (.int (3 : Int32)), .val (.int (160 : Int32)), .val (.int (191 : Int32)), .unset] [(.int (0 : Int32))])) _
                refine XS.ifNo X17.here hx rfl (hb hby at_394) rfl ((if0 _ _).trans (teq (by decide : (0 : Int32) = (0 : Int32))).2) ?_
                refine XS.bipush X17.here hx rfl (hb hby at_397) ?_
                refine XS.istore X17.here hx rfl (hb hby at_399) rfl (l' := #[.val (.int p1), .val (.int p2), .val (.int p3), .val (.int p4), .val (.int p5), .val (.int p6), .val (.int of), .val (.ref b), .val (.int lim), .val (.int av), .val (.int xx), .val (.int b1), .val (.int b2), .val (.int b3), .val (.int (3 : Int32)), .val (.int (160 : Int32)), .val (.int (191 : Int32)), .val (.int (-3 : Int32))]) rfl ?_
                refine XS.goto X17.here hx rfl (pc0 := 401) (pc' := 453) rfl (hb hby at_401) (by decide) (by decide) ?_
                exact k
              refine ⟨T17, _, (3 : Int32), (160 : Int32), (191 : Int32), X17, e17, N17, fun t k => pre19 t ?_⟩
              have eE : own_E xx.toInt b1.toInt b2.toInt b3.toInt av.toInt = (-3 : Int32) := (lf0_6 (xx.toInt) (b1.toInt) (b2.toInt) (b3.toInt) (av.toInt) r_xx r_b1 r_b2 r_b3 r_av i1 i_hc181_9 i_hc329_11 i13a i13b i_hc373_15 i17)
              rw [eE] at k
              exact k
        · rw [v13] at st13
          have pre20 : ∀ t, Steps p.tables e below (T13.setTop (mkF m 453 #[.val (.int p1), .val (.int p2), .val (.int p3), .val (.int p4), .val (.int p5), .val (.int p6), .val (.int of), .val (.ref b), .val (.int lim), .val (.int av), .val (.int xx), .val (.int b1), .val (.int b2), .val (.int b3), .val (.int (3 : Int32)), .val (.int (160 : Int32)), .val (.int (191 : Int32)), .val (.int (-2 : Int32))] [])) t → Steps p.tables e below (T0.setTop (mkF m 146 #[.val (.int p1), .val (.int p2), .val (.int p3), .val (.int p4), .val (.int p5), .val (.int p6), .val (.int of), .val (.ref b), .val (.int lim), .val (.int av), .val (.int xx), .val (.int b1), .val (.int b2), .val (.int b3), .unset, .unset, .unset, .unset] [])) t := by
            intro t k
            refine pre10 t ?_
            show Steps p.tables e below (T1.setTop (mkF m 329 #[.val (.int p1), .val (.int p2), .val (.int p3), .val (.int p4), .val (.int p5), .val (.int p6), .val (.int of), .val (.ref b), .val (.int lim), .val (.int av), .val (.int xx), .val (.int b1), .val (.int b2), .val (.int b3), .val (.int (3 : Int32)), .val (.int (160 : Int32)), .val (.int (191 : Int32)), .unset] [(.int (1 : Int32)), (.int av)])) _
            refine XS.icmpYes X1.here hx rfl (pc0 := 329) (pc' := 339) rfl (hb hby at_329) rfl (flt hc329_11).2.1 (by decide) (by decide) ?_
            refine XS.iload X1.here hx rfl (hb hby at_339) rfl ?_
            refine XS.iload X1.here hx rfl (hb hby at_341) rfl ?_
            refine XS.iload X1.here hx rfl (hb hby at_343) rfl ?_
            show Steps p.tables e below (T1.setTop (mkF m 345 #[.val (.int p1), .val (.int p2), .val (.int p3), .val (.int p4), .val (.int p5), .val (.int p6), .val (.int of), .val (.ref b), .val (.int lim), .val (.int av), .val (.int xx), .val (.int b1), .val (.int b2), .val (.int b3), .val (.int (3 : Int32)), .val (.int (160 : Int32)), .val (.int (191 : Int32)), .unset] [(.int (191 : Int32)), (.int (160 : Int32)), (.int b1)])) _
            refine st13 _ ?_
            show Steps p.tables e below (T13.setTop (mkF m 348 #[.val (.int p1), .val (.int p2), .val (.int p3), .val (.int p4), .val (.int p5), .val (.int p6), .val (.int of), .val (.ref b), .val (.int lim), .val (.int av), .val (.int xx), .val (.int b1), .val (.int b2), .val (.int b3), .val (.int (3 : Int32)), .val (.int (160 : Int32)), .val (.int (191 : Int32)), .unset] [(.int (0 : Int32))])) _
            refine XS.ifNo X13.here hx rfl (hb hby at_348) rfl ((if0 _ _).trans (teq (by decide : (0 : Int32) = (0 : Int32))).2) ?_
            refine XS.bipush X13.here hx rfl (hb hby at_351) ?_
            refine XS.istore X13.here hx rfl (hb hby at_353) rfl (l' := #[.val (.int p1), .val (.int p2), .val (.int p3), .val (.int p4), .val (.int p5), .val (.int p6), .val (.int of), .val (.ref b), .val (.int lim), .val (.int av), .val (.int xx), .val (.int b1), .val (.int b2), .val (.int b3), .val (.int (3 : Int32)), .val (.int (160 : Int32)), .val (.int (191 : Int32)), .val (.int (-2 : Int32))]) rfl ?_
            refine XS.goto X13.here hx rfl (pc0 := 355) (pc' := 453) rfl (hb hby at_355) (by decide) (by decide) ?_
            exact k
          refine ⟨T13, _, (3 : Int32), (160 : Int32), (191 : Int32), X13, e13, N13, fun t k => pre20 t ?_⟩
          have eE : own_E xx.toInt b1.toInt b2.toInt b3.toInt av.toInt = (-2 : Int32) := (lf0_7 (xx.toInt) (b1.toInt) (b2.toInt) (b3.toInt) (av.toInt) r_xx r_b1 r_b2 r_b3 r_av i1 i_hc181_9 i_hc329_11 i13)
          rw [eE] at k
          exact k
    · have i_hc181_9 : ¬ (xx.toInt = (224 : Int32).toInt) := fun q => hc181_9 ((Int32.toInt_inj.symm).mpr q)
      obtain ⟨_, _, ⟨T21, L21, k21, n21⟩, -, X21, ⟨Lc21, hQ21, l21, y21, z21⟩, st21⟩ := Jvm.LawKit.callS X1 hx (y := (⟨"com/example/kindgen/kindgen/runtime/Utf8CursorSequenceLengthPinLaw", "in", "(III)Z"⟩ : MethodName)) hown (mvT hZ (hw _ (List.mem_of_getElem? (i := 1) rfl))) (mvT hZ (hw _ (List.mem_of_getElem? (i := 2) rfl))) (mvT hZ (hw _ (List.mem_of_getElem? (i := 3) rfl))) (mvT hZ (hw _ (List.mem_of_getElem? (i := 4) rfl))) (by decide) (backOf (W := 0) (rm1 l Z a0 hw [] xx (225 : Int32) (236 : Int32) h0 n0 Z0) hZ (hw _ (List.mem_of_getElem? (i := 4) rfl)) (hw _ (List.mem_of_getElem? (i := 3) rfl)) (by decide) (by decide)) (g := (mkF m 203 #[.val (.int p1), .val (.int p2), .val (.int p3), .val (.int p4), .val (.int p5), .val (.int p6), .val (.int of), .val (.ref b), .val (.int lim), .val (.int av), .val (.int xx), .val (.int b1), .val (.int b2), .val (.int b3), .unset, .val (.int (128 : Int32)), .val (.int (191 : Int32)), .unset] [(.int (236 : Int32)), (.int (225 : Int32)), (.int xx)])) rfl (by rw [hml]; rfl) (argsL := [(.int xx), (.int (225 : Int32)), (.int (236 : Int32))]) (rest := []) (lenOf pd_0 rfl) rfl (by show 2 * 0 + _ ≤ _; exact Nat.le_of_eq rfl) (hb hby at_203) (fun _ _ => ⟨rfl, e1, (by decide : 1 + 0 ≤ _), (by decide : 5 + 0 ≤ _)⟩)
      dsimp only [Pt.U, Pt.locs, Pt.cells, Pt.slots] at X21 l21 y21 z21 st21 hQ21
      subst l21 y21 z21
      obtain ⟨rfl, N21q, e21⟩ := hQ21
      have N21 := Fr.app N1 N21q
      rcases own_in xx (225 : Int32) (236 : Int32) with ⟨v21, i21a, i21b⟩ | ⟨v21, i21⟩
      · rw [v21] at st21
        have pre22 : ∀ t, Steps p.tables e below (T21.setTop (mkF m 329 #[.val (.int p1), .val (.int p2), .val (.int p3), .val (.int p4), .val (.int p5), .val (.int p6), .val (.int of), .val (.ref b), .val (.int lim), .val (.int av), .val (.int xx), .val (.int b1), .val (.int b2), .val (.int b3), .val (.int (3 : Int32)), .val (.int (128 : Int32)), .val (.int (191 : Int32)), .unset] [(.int (1 : Int32)), (.int av)])) t → Steps p.tables e below (T0.setTop (mkF m 146 #[.val (.int p1), .val (.int p2), .val (.int p3), .val (.int p4), .val (.int p5), .val (.int p6), .val (.int of), .val (.ref b), .val (.int lim), .val (.int av), .val (.int xx), .val (.int b1), .val (.int b2), .val (.int b3), .unset, .unset, .unset, .unset] [])) t := by
          intro t k
          refine pre8 t ?_
          show Steps p.tables e below (T1.setTop (mkF m 181 #[.val (.int p1), .val (.int p2), .val (.int p3), .val (.int p4), .val (.int p5), .val (.int p6), .val (.int of), .val (.ref b), .val (.int lim), .val (.int av), .val (.int xx), .val (.int b1), .val (.int b2), .val (.int b3), .unset, .val (.int (128 : Int32)), .val (.int (191 : Int32)), .unset] [(.int (224 : Int32)), (.int xx)])) _
          refine XS.icmpYes X1.here hx rfl (pc0 := 181) (pc' := 195) rfl (hb hby at_181) rfl (feq hc181_9).2 (by decide) (by decide) ?_
          refine XS.iload X1.here hx rfl (hb hby at_195) rfl ?_
          refine XS.sipush X1.here hx rfl (hb hby at_197) ?_
          refine XS.sipush X1.here hx rfl (hb hby at_200) ?_
          show Steps p.tables e below (T1.setTop (mkF m 203 #[.val (.int p1), .val (.int p2), .val (.int p3), .val (.int p4), .val (.int p5), .val (.int p6), .val (.int of), .val (.ref b), .val (.int lim), .val (.int av), .val (.int xx), .val (.int b1), .val (.int b2), .val (.int b3), .unset, .val (.int (128 : Int32)), .val (.int (191 : Int32)), .unset] [(.int (236 : Int32)), (.int (225 : Int32)), (.int xx)])) _
          refine st21 _ ?_
          show Steps p.tables e below (T21.setTop (mkF m 206 #[.val (.int p1), .val (.int p2), .val (.int p3), .val (.int p4), .val (.int p5), .val (.int p6), .val (.int of), .val (.ref b), .val (.int lim), .val (.int av), .val (.int xx), .val (.int b1), .val (.int b2), .val (.int b3), .unset, .val (.int (128 : Int32)), .val (.int (191 : Int32)), .unset] [(.int (1 : Int32))])) _
          refine XS.ifNo X21.here hx rfl (hb hby at_206) rfl ((if0 _ _).trans (feq (by decide : ¬ ((1 : Int32) = (0 : Int32)))).1) ?_
          refine XS.iconst X21.here hx rfl (hb hby at_209) ?_
          refine XS.istore X21.here hx rfl (hb hby at_210) rfl (l' := #[.val (.int p1), .val (.int p2), .val (.int p3), .val (.int p4), .val (.int p5), .val (.int p6), .val (.int of), .val (.ref b), .val (.int lim), .val (.int av), .val (.int xx), .val (.int b1), .val (.int b2), .val (.int b3), .val (.int (3 : Int32)), .val (.int (128 : Int32)), .val (.int (191 : Int32)), .unset]) rfl ?_
          refine XS.goto X21.here hx rfl (pc0 := 212) (pc' := 315) rfl (hb hby at_212) (by decide) (by decide) ?_
          show Steps p.tables e below (T21.setTop (mkF m 315 #[.val (.int p1), .val (.int p2), .val (.int p3), .val (.int p4), .val (.int p5), .val (.int p6), .val (.int of), .val (.ref b), .val (.int lim), .val (.int av), .val (.int xx), .val (.int b1), .val (.int b2), .val (.int b3), .val (.int (3 : Int32)), .val (.int (128 : Int32)), .val (.int (191 : Int32)), .unset] [])) _
          refine XS.iload X21.here hx rfl (hb hby at_315) rfl ?_
          show Steps p.tables e below (T21.setTop (mkF m 317 #[.val (.int p1), .val (.int p2), .val (.int p3), .val (.int p4), .val (.int p5), .val (.int p6), .val (.int of), .val (.ref b), .val (.int lim), .val (.int av), .val (.int xx), .val (.int b1), .val (.int b2), .val (.int b3), .val (.int (3 : Int32)), .val (.int (128 : Int32)), .val (.int (191 : Int32)), .unset] [(.int (3 : Int32))])) _
          refine XS.ifYes X21.here hx rfl (pc0 := 317) (pc' := 326) rfl (hb hby at_317) rfl ((if0 _ _).trans (flt (by decide : ¬ ((3 : Int32) < (0 : Int32)))).2.1) (by decide) (by decide) ?_
          refine XS.iload X21.here hx rfl (hb hby at_326) rfl ?_
          refine XS.iconst X21.here hx rfl (hb hby at_328) ?_
          exact k
        by_cases hc329_23 : av < (1 : Int32)
        · have i_hc329_23 : av.toInt < (1 : Int32).toInt := (Int32.lt_iff_toInt_lt).mp hc329_23
          have pre24 : ∀ t, Steps p.tables e below (T21.setTop (mkF m 453 #[.val (.int p1), .val (.int p2), .val (.int p3), .val (.int p4), .val (.int p5), .val (.int p6), .val (.int of), .val (.ref b), .val (.int lim), .val (.int av), .val (.int xx), .val (.int b1), .val (.int b2), .val (.int b3), .val (.int (3 : Int32)), .val (.int (128 : Int32)), .val (.int (191 : Int32)), .val (.int (-2147483648 : Int32))] [])) t → Steps p.tables e below (T0.setTop (mkF m 146 #[.val (.int p1), .val (.int p2), .val (.int p3), .val (.int p4), .val (.int p5), .val (.int p6), .val (.int of), .val (.ref b), .val (.int lim), .val (.int av), .val (.int xx), .val (.int b1), .val (.int b2), .val (.int b3), .unset, .unset, .unset, .unset] [])) t := by
            intro t k
            refine pre22 t ?_
            show Steps p.tables e below (T21.setTop (mkF m 329 #[.val (.int p1), .val (.int p2), .val (.int p3), .val (.int p4), .val (.int p5), .val (.int p6), .val (.int of), .val (.ref b), .val (.int lim), .val (.int av), .val (.int xx), .val (.int b1), .val (.int b2), .val (.int b3), .val (.int (3 : Int32)), .val (.int (128 : Int32)), .val (.int (191 : Int32)), .unset] [(.int (1 : Int32)), (.int av)])) _
            refine XS.icmpNo X21.here hx rfl (hb hby at_329) rfl (tlt hc329_23).2.1 ?_
            show Steps p.tables e below (T21.setTop (mkF m 332 #[.val (.int p1), .val (.int p2), .val (.int p3), .val (.int p4), .val (.int p5), .val (.int p6), .val (.int of), .val (.ref b), .val (.int lim), .val (.int av), .val (.int xx), .val (.int b1), .val (.int b2), .val (.int b3), .val (.int (3 : Int32)), .val (.int (128 : Int32)), .val (.int (191 : Int32)), .unset] [])) _
            refine X21.ldcInt hx hown (mvT hZ (hw _ (List.mem_of_getElem? (i := 9) rfl))) (g := (mkF m 332 #[.val (.int p1), .val (.int p2), .val (.int p3), .val (.int p4), .val (.int p5), .val (.int p6), .val (.int of), .val (.ref b), .val (.int lim), .val (.int av), .val (.int xx), .val (.int b1), .val (.int b2), .val (.int b3), .val (.int (3 : Int32)), .val (.int (128 : Int32)), .val (.int (191 : Int32)), .unset] [])) rfl (hb hby at_332) _ ?_
            refine XS.istore X21.here hx rfl (hb hby at_334) rfl (l' := #[.val (.int p1), .val (.int p2), .val (.int p3), .val (.int p4), .val (.int p5), .val (.int p6), .val (.int of), .val (.ref b), .val (.int lim), .val (.int av), .val (.int xx), .val (.int b1), .val (.int b2), .val (.int b3), .val (.int (3 : Int32)), .val (.int (128 : Int32)), .val (.int (191 : Int32)), .val (.int (-2147483648 : Int32))]) rfl ?_
            refine XS.goto X21.here hx rfl (pc0 := 336) (pc' := 453) rfl (hb hby at_336) (by decide) (by decide) ?_
            exact k
          refine ⟨T21, _, (3 : Int32), (128 : Int32), (191 : Int32), X21, e21, N21, fun t k => pre24 t ?_⟩
          have eE : own_E xx.toInt b1.toInt b2.toInt b3.toInt av.toInt = (-2147483648 : Int32) := (lf0_8 (xx.toInt) (b1.toInt) (b2.toInt) (b3.toInt) (av.toInt) r_xx r_b1 r_b2 r_b3 r_av i1 i_hc181_9 i21a i21b i_hc329_23)
          rw [eE] at k
          exact k
        · have i_hc329_23 : ¬ (av.toInt < (1 : Int32).toInt) := fun q => hc329_23 ((Int32.lt_iff_toInt_lt).mpr q)
          obtain ⟨_, _, ⟨T25, L25, k25, n25⟩, -, X25, ⟨Lc25, hQ25, l25, y25, z25⟩, st25⟩ := Jvm.LawKit.callS X21 hx (y := (⟨"com/example/kindgen/kindgen/runtime/Utf8CursorSequenceLengthPinLaw", "in", "(III)Z"⟩ : MethodName)) hown (mvT hZ (hw _ (List.mem_of_getElem? (i := 1) rfl))) (mvT hZ (hw _ (List.mem_of_getElem? (i := 2) rfl))) (mvT hZ (hw _ (List.mem_of_getElem? (i := 3) rfl))) (mvT hZ (hw _ (List.mem_of_getElem? (i := 4) rfl))) (by decide) (backOf (W := 0) (rm1 l Z a0 hw [] b1 (128 : Int32) (191 : Int32) h0 n0 Z0) hZ (hw _ (List.mem_of_getElem? (i := 4) rfl)) (hw _ (List.mem_of_getElem? (i := 3) rfl)) (by decide) (by decide)) (g := (mkF m 345 #[.val (.int p1), .val (.int p2), .val (.int p3), .val (.int p4), .val (.int p5), .val (.int p6), .val (.int of), .val (.ref b), .val (.int lim), .val (.int av), .val (.int xx), .val (.int b1), .val (.int b2), .val (.int b3), .val (.int (3 : Int32)), .val (.int (128 : Int32)), .val (.int (191 : Int32)), .unset] [(.int (191 : Int32)), (.int (128 : Int32)), (.int b1)])) rfl (by rw [hml]; rfl) (argsL := [(.int b1), (.int (128 : Int32)), (.int (191 : Int32))]) (rest := []) (lenOf pd_0 rfl) rfl (by show 2 * 0 + _ ≤ _; exact Nat.le_of_eq rfl) (hb hby at_345) (fun _ _ => ⟨rfl, e21, (by decide : 1 + 0 ≤ _), (by decide : 5 + 0 ≤ _)⟩)
          dsimp only [Pt.U, Pt.locs, Pt.cells, Pt.slots] at X25 l25 y25 z25 st25 hQ25
          subst l25 y25 z25
          obtain ⟨rfl, N25q, e25⟩ := hQ25
          have N25 := Fr.app N21 N25q
          rcases own_in b1 (128 : Int32) (191 : Int32) with ⟨v25, i25a, i25b⟩ | ⟨v25, i25⟩
          · rw [v25] at st25
            have pre26 : ∀ t, Steps p.tables e below (T25.setTop (mkF m 373 #[.val (.int p1), .val (.int p2), .val (.int p3), .val (.int p4), .val (.int p5), .val (.int p6), .val (.int of), .val (.ref b), .val (.int lim), .val (.int av), .val (.int xx), .val (.int b1), .val (.int b2), .val (.int b3), .val (.int (3 : Int32)), .val (.int (128 : Int32)), .val (.int (191 : Int32)), .unset] [(.int (2 : Int32)), (.int av)])) t → Steps p.tables e below (T0.setTop (mkF m 146 #[.val (.int p1), .val (.int p2), .val (.int p3), .val (.int p4), .val (.int p5), .val (.int p6), .val (.int of), .val (.ref b), .val (.int lim), .val (.int av), .val (.int xx), .val (.int b1), .val (.int b2), .val (.int b3), .unset, .unset, .unset, .unset] [])) t := by
              intro t k
              refine pre22 t ?_
              show Steps p.tables e below (T21.setTop (mkF m 329 #[.val (.int p1), .val (.int p2), .val (.int p3), .val (.int p4), .val (.int p5), .val (.int p6), .val (.int of), .val (.ref b), .val (.int lim), .val (.int av), .val (.int xx), .val (.int b1), .val (.int b2), .val (.int b3), .val (.int (3 : Int32)), .val (.int (128 : Int32)), .val (.int (191 : Int32)), .unset] [(.int (1 : Int32)), (.int av)])) _
              refine XS.icmpYes X21.here hx rfl (pc0 := 329) (pc' := 339) rfl (hb hby at_329) rfl (flt hc329_23).2.1 (by decide) (by decide) ?_
              refine XS.iload X21.here hx rfl (hb hby at_339) rfl ?_
              refine XS.iload X21.here hx rfl (hb hby at_341) rfl ?_
              refine XS.iload X21.here hx rfl (hb hby at_343) rfl ?_
              show Steps p.tables e below (T21.setTop (mkF m 345 #[.val (.int p1), .val (.int p2), .val (.int p3), .val (.int p4), .val (.int p5), .val (.int p6), .val (.int of), .val (.ref b), .val (.int lim), .val (.int av), .val (.int xx), .val (.int b1), .val (.int b2), .val (.int b3), .val (.int (3 : Int32)), .val (.int (128 : Int32)), .val (.int (191 : Int32)), .unset] [(.int (191 : Int32)), (.int (128 : Int32)), (.int b1)])) _
              refine st25 _ ?_
              show Steps p.tables e below (T25.setTop (mkF m 348 #[.val (.int p1), .val (.int p2), .val (.int p3), .val (.int p4), .val (.int p5), .val (.int p6), .val (.int of), .val (.ref b), .val (.int lim), .val (.int av), .val (.int xx), .val (.int b1), .val (.int b2), .val (.int b3), .val (.int (3 : Int32)), .val (.int (128 : Int32)), .val (.int (191 : Int32)), .unset] [(.int (1 : Int32))])) _
              refine XS.ifYes X25.here hx rfl (pc0 := 348) (pc' := 358) rfl (hb hby at_348) rfl ((if0 _ _).trans (feq (by decide : ¬ ((1 : Int32) = (0 : Int32)))).2) (by decide) (by decide) ?_
              refine XS.iload X25.here hx rfl (hb hby at_358) rfl ?_
              refine XS.iconst X25.here hx rfl (hb hby at_360) ?_
              show Steps p.tables e below (T25.setTop (mkF m 361 #[.val (.int p1), .val (.int p2), .val (.int p3), .val (.int p4), .val (.int p5), .val (.int p6), .val (.int of), .val (.ref b), .val (.int lim), .val (.int av), .val (.int xx), .val (.int b1), .val (.int b2), .val (.int b3), .val (.int (3 : Int32)), .val (.int (128 : Int32)), .val (.int (191 : Int32)), .unset] [(.int (2 : Int32)), (.int (3 : Int32))])) _
              refine XS.icmpYes X25.here hx rfl (pc0 := 361) (pc' := 370) rfl (hb hby at_361) rfl (feq (by decide : ¬ ((3 : Int32) = (2 : Int32)))).2 (by decide) (by decide) ?_
              refine XS.iload X25.here hx rfl (hb hby at_370) rfl ?_
              refine XS.iconst X25.here hx rfl (hb hby at_372) ?_
              exact k
            by_cases hc373_27 : av < (2 : Int32)
            · have i_hc373_27 : av.toInt < (2 : Int32).toInt := (Int32.lt_iff_toInt_lt).mp hc373_27
              have pre28 : ∀ t, Steps p.tables e below (T25.setTop (mkF m 453 #[.val (.int p1), .val (.int p2), .val (.int p3), .val (.int p4), .val (.int p5), .val (.int p6), .val (.int of), .val (.ref b), .val (.int lim), .val (.int av), .val (.int xx), .val (.int b1), .val (.int b2), .val (.int b3), .val (.int (3 : Int32)), .val (.int (128 : Int32)), .val (.int (191 : Int32)), .val (.int (-2147483648 : Int32))] [])) t → Steps p.tables e below (T0.setTop (mkF m 146 #[.val (.int p1), .val (.int p2), .val (.int p3), .val (.int p4), .val (.int p5), .val (.int p6), .val (.int of), .val (.ref b), .val (.int lim), .val (.int av), .val (.int xx), .val (.int b1), .val (.int b2), .val (.int b3), .unset, .unset, .unset, .unset] [])) t := by
                intro t k
                refine pre26 t ?_
                show Steps p.tables e below (T25.setTop (mkF m 373 #[.val (.int p1), .val (.int p2), .val (.int p3), .val (.int p4), .val (.int p5), .val (.int p6), .val (.int of), .val (.ref b), .val (.int lim), .val (.int av), .val (.int xx), .val (.int b1), .val (.int b2), .val (.int b3), .val (.int (3 : Int32)), .val (.int (128 : Int32)), .val (.int (191 : Int32)), .unset] [(.int (2 : Int32)), (.int av)])) _
                refine XS.icmpNo X25.here hx rfl (hb hby at_373) rfl (tlt hc373_27).2.1 ?_
                show Steps p.tables e below (T25.setTop (mkF m 376 #[.val (.int p1), .val (.int p2), .val (.int p3), .val (.int p4), .val (.int p5), .val (.int p6), .val (.int of), .val (.ref b), .val (.int lim), .val (.int av), .val (.int xx), .val (.int b1), .val (.int b2), .val (.int b3), .val (.int (3 : Int32)), .val (.int (128 : Int32)), .val (.int (191 : Int32)), .unset] [])) _
                refine X25.ldcInt hx hown (mvT hZ (hw _ (List.mem_of_getElem? (i := 9) rfl))) (g := (mkF m 376 #[.val (.int p1), .val (.int p2), .val (.int p3), .val (.int p4), .val (.int p5), .val (.int p6), .val (.int of), .val (.ref b), .val (.int lim), .val (.int av), .val (.int xx), .val (.int b1), .val (.int b2), .val (.int b3), .val (.int (3 : Int32)), .val (.int (128 : Int32)), .val (.int (191 : Int32)), .unset] [])) rfl (hb hby at_376) _ ?_
                refine XS.istore X25.here hx rfl (hb hby at_378) rfl (l' := #[.val (.int p1), .val (.int p2), .val (.int p3), .val (.int p4), .val (.int p5), .val (.int p6), .val (.int of), .val (.ref b), .val (.int lim), .val (.int av), .val (.int xx), .val (.int b1), .val (.int b2), .val (.int b3), .val (.int (3 : Int32)), .val (.int (128 : Int32)), .val (.int (191 : Int32)), .val (.int (-2147483648 : Int32))]) rfl ?_
                refine XS.goto X25.here hx rfl (pc0 := 380) (pc' := 453) rfl (hb hby at_380) (by decide) (by decide) ?_
                exact k
              refine ⟨T25, _, (3 : Int32), (128 : Int32), (191 : Int32), X25, e25, N25, fun t k => pre28 t ?_⟩
              have eE : own_E xx.toInt b1.toInt b2.toInt b3.toInt av.toInt = (-2147483648 : Int32) := (lf0_9 (xx.toInt) (b1.toInt) (b2.toInt) (b3.toInt) (av.toInt) r_xx r_b1 r_b2 r_b3 r_av i1 i_hc181_9 i21a i21b i_hc329_23 i25a i25b i_hc373_27)
              rw [eE] at k
              exact k
            · have i_hc373_27 : ¬ (av.toInt < (2 : Int32).toInt) := fun q => hc373_27 ((Int32.lt_iff_toInt_lt).mpr q)
              obtain ⟨_, _, ⟨T29, L29, k29, n29⟩, -, X29, ⟨Lc29, hQ29, l29, y29, z29⟩, st29⟩ := Jvm.LawKit.callS X25 hx (y := (⟨"com/example/kindgen/kindgen/runtime/Utf8CursorSequenceLengthPinLaw", "in", "(III)Z"⟩ : MethodName)) hown (mvT hZ (hw _ (List.mem_of_getElem? (i := 1) rfl))) (mvT hZ (hw _ (List.mem_of_getElem? (i := 2) rfl))) (mvT hZ (hw _ (List.mem_of_getElem? (i := 3) rfl))) (mvT hZ (hw _ (List.mem_of_getElem? (i := 4) rfl))) (by decide) (backOf (W := 0) (rm1 l Z a0 hw [] b2 (128 : Int32) (191 : Int32) h0 n0 Z0) hZ (hw _ (List.mem_of_getElem? (i := 4) rfl)) (hw _ (List.mem_of_getElem? (i := 3) rfl)) (by decide) (by decide)) (g := (mkF m 391 #[.val (.int p1), .val (.int p2), .val (.int p3), .val (.int p4), .val (.int p5), .val (.int p6), .val (.int of), .val (.ref b), .val (.int lim), .val (.int av), .val (.int xx), .val (.int b1), .val (.int b2), .val (.int b3), .val (.int (3 : Int32)), .val (.int (128 : Int32)), .val (.int (191 : Int32)), .unset] [(.int (191 : Int32)), (.int (128 : Int32)), (.int b2)])) rfl (by rw [hml]; rfl) (argsL := [(.int b2), (.int (128 : Int32)), (.int (191 : Int32))]) (rest := []) (lenOf pd_0 rfl) rfl (by show 2 * 0 + _ ≤ _; exact Nat.le_of_eq rfl) (hb hby at_391) (fun _ _ => ⟨rfl, e25, (by decide : 1 + 0 ≤ _), (by decide : 5 + 0 ≤ _)⟩)
              dsimp only [Pt.U, Pt.locs, Pt.cells, Pt.slots] at X29 l29 y29 z29 st29 hQ29
              subst l29 y29 z29
              obtain ⟨rfl, N29q, e29⟩ := hQ29
              have N29 := Fr.app N25 N29q
              rcases own_in b2 (128 : Int32) (191 : Int32) with ⟨v29, i29a, i29b⟩ | ⟨v29, i29⟩
              · rw [v29] at st29
                have pre30 : ∀ t, Steps p.tables e below (T29.setTop (mkF m 453 #[.val (.int p1), .val (.int p2), .val (.int p3), .val (.int p4), .val (.int p5), .val (.int p6), .val (.int of), .val (.ref b), .val (.int lim), .val (.int av), .val (.int xx), .val (.int b1), .val (.int b2), .val (.int b3), .val (.int (3 : Int32)), .val (.int (128 : Int32)), .val (.int (191 : Int32)), .val (.int (3 : Int32))] [])) t → Steps p.tables e below (T0.setTop (mkF m 146 #[.val (.int p1), .val (.int p2), .val (.int p3), .val (.int p4), .val (.int p5), .val (.int p6), .val (.int of), .val (.ref b), .val (.int lim), .val (.int av), .val (.int xx), .val (.int b1), .val (.int b2), .val (.int b3), .unset, .unset, .unset, .unset] [])) t := by
                  intro t k
                  refine pre26 t ?_
                  show Steps p.tables e below (T25.setTop (mkF m 373 #[.val (.int p1), .val (.int p2), .val (.int p3), .val (.int p4), .val (.int p5), .val (.int p6), .val (.int of), .val (.ref b), .val (.int lim), .val (.int av), .val (.int xx), .val (.int b1), .val (.int b2), .val (.int b3), .val (.int (3 : Int32)), .val (.int (128 : Int32)), .val (.int (191 : Int32)), .unset] [(.int (2 : Int32)), (.int av)])) _
                  refine XS.icmpYes X25.here hx rfl (pc0 := 373) (pc' := 383) rfl (hb hby at_373) rfl (flt hc373_27).2.1 (by decide) (by decide) ?_
                  refine XS.iload X25.here hx rfl (hb hby at_383) rfl ?_
                  refine XS.sipush X25.here hx rfl (hb hby at_385) ?_
                  refine XS.sipush X25.here hx rfl (hb hby at_388) ?_
                  show Steps p.tables e below (T25.setTop (mkF m 391 #[.val (.int p1), .val (.int p2), .val (.int p3), .val (.int p4), .val (.int p5), .val (.int p6), .val (.int of), .val (.ref b), .val (.int lim), .val (.int av), .val (.int xx), .val (.int b1), .val (.int b2), .val (.int b3), .val (.int (3 : Int32)), .val (.int (128 : Int32)), .val (.int (191 : Int32)), .unset] [(.int (191 : Int32)), (.int (128 : Int32)), (.int b2)])) _
                  refine st29 _ ?_
                  show Steps p.tables e below (T29.setTop (mkF m 394 #[.val (.int p1), .val (.int p2), .val (.int p3), .val (.int p4), .val (.int p5), .val (.int p6), .val (.int of), .val (.ref b), .val (.int lim), .val (.int av), .val (.int xx), .val (.int b1), .val (.int b2), .val (.int b3), .val (.int (3 : Int32)), .val (.int (128 : Int32)), .val (.int (191 : Int32)), .unset] [(.int (1 : Int32))])) _
                  refine XS.ifYes X29.here hx rfl (pc0 := 394) (pc' := 404) rfl (hb hby at_394) rfl ((if0 _ _).trans (feq (by decide : ¬ ((1 : Int32) = (0 : Int32)))).2) (by decide) (by decide) ?_
                  refine XS.iload X29.here hx rfl (hb hby at_404) rfl ?_
                  refine XS.iconst X29.here hx rfl (hb hby at_406) ?_
                  show Steps p.tables e below (T29.setTop (mkF m 407 #[.val (.int p1), .val (.int p2), .val (.int p3), .val (.int p4), .val (.int p5), .val (.int p6), .val (.int of), .val (.ref b), .val (.int lim), .val (.int av), .val (.int xx), .val (.int b1), .val (.int b2), .val (.int b3), .val (.int (3 : Int32)), .val (.int (128 : Int32)), .val (.int (191 : Int32)), .unset] [(.int (3 : Int32)), (.int (3 : Int32))])) _
                  refine XS.icmpNo X29.here hx rfl (hb hby at_407) rfl (teq (by decide : (3 : Int32) = (3 : Int32))).2 ?_
                  refine XS.iconst X29.here hx rfl (hb hby at_410) ?_
                  refine XS.istore X29.here hx rfl (hb hby at_411) rfl (l' := #[.val (.int p1), .val (.int p2), .val (.int p3), .val (.int p4), .val (.int p5), .val (.int p6), .val (.int of), .val (.ref b), .val (.int lim), .val (.int av), .val (.int xx), .val (.int b1), .val (.int b2), .val (.int b3), .val (.int (3 : Int32)), .val (.int (128 : Int32)), .val (.int (191 : Int32)), .val (.int (3 : Int32))]) rfl ?_
                  refine XS.goto X29.here hx rfl (pc0 := 413) (pc' := 453) rfl (hb hby at_413) (by decide) (by decide) ?_
                  exact k
                refine ⟨T29, _, (3 : Int32), (128 : Int32), (191 : Int32), X29, e29, N29, fun t k => pre30 t ?_⟩
                have eE : own_E xx.toInt b1.toInt b2.toInt b3.toInt av.toInt = (3 : Int32) := (lf0_10 (xx.toInt) (b1.toInt) (b2.toInt) (b3.toInt) (av.toInt) r_xx r_b1 r_b2 r_b3 r_av i1 i_hc181_9 i21a i21b i_hc329_23 i25a i25b i_hc373_27 i29a i29b)
                rw [eE] at k
                exact k
              · rw [v29] at st29
                have pre31 : ∀ t, Steps p.tables e below (T29.setTop (mkF m 453 #[.val (.int p1), .val (.int p2), .val (.int p3), .val (.int p4), .val (.int p5), .val (.int p6), .val (.int of), .val (.ref b), .val (.int lim), .val (.int av), .val (.int xx), .val (.int b1), .val (.int b2), .val (.int b3), .val (.int (3 : Int32)), .val (.int (128 : Int32)), .val (.int (191 : Int32)), .val (.int (-3 : Int32))] [])) t → Steps p.tables e below (T0.setTop (mkF m 146 #[.val (.int p1), .val (.int p2), .val (.int p3), .val (.int p4), .val (.int p5), .val (.int p6), .val (.int of), .val (.ref b), .val (.int lim), .val (.int av), .val (.int xx), .val (.int b1), .val (.int b2), .val (.int b3), .unset, .unset, .unset, .unset] [])) t := by
                  intro t k
                  refine pre26 t ?_
                  show Steps p.tables e below (T25.setTop (mkF m 373 #[.val (.int p1), .val (.int p2), .val (.int p3), .val (.int p4), .val (.int p5), .val (.int p6), .val (.int of), .val (.ref b), .val (.int lim), .val (.int av), .val (.int xx), .val (.int b1), .val (.int b2), .val (.int b3), .val (.int (3 : Int32)), .val (.int (128 : Int32)), .val (.int (191 : Int32)), .unset] [(.int (2 : Int32)), (.int av)])) _
                  refine XS.icmpYes X25.here hx rfl (pc0 := 373) (pc' := 383) rfl (hb hby at_373) rfl (flt hc373_27).2.1 (by decide) (by decide) ?_
                  refine XS.iload X25.here hx rfl (hb hby at_383) rfl ?_
                  refine XS.sipush X25.here hx rfl (hb hby at_385) ?_
                  refine XS.sipush X25.here hx rfl (hb hby at_388) ?_
                  show Steps p.tables e below (T25.setTop (mkF m 391 #[.val (.int p1), .val (.int p2), .val (.int p3), .val (.int p4), .val (.int p5), .val (.int p6), .val (.int of), .val (.ref b), .val (.int lim), .val (.int av), .val (.int xx), .val (.int b1), .val (.int b2), .val (.int b3), .val (.int (3 : Int32)), .val (.int (128 : Int32)), .val (.int (191 : Int32)), .unset] [(.int (191 : Int32)), (.int (128 : Int32)), (.int b2)])) _
                  refine st29 _ ?_
                  show Steps p.tables e below (T29.setTop (mkF m 394 #[.val (.int p1), .val (.int p2), .val (.int p3), .val (.int p4), .val (.int p5), .val (.int p6), .val (.int of), .val (.ref b), .val (.int lim), .val (.int av), .val (.int xx), .val (.int b1), .val (.int b2), .val (.int b3), .val (.int (3 : Int32)), .val (.int (128 : Int32)), .val (.int (191 : Int32)), .unset] [(.int (0 : Int32))])) _
                  refine XS.ifNo X29.here hx rfl (hb hby at_394) rfl ((if0 _ _).trans (teq (by decide : (0 : Int32) = (0 : Int32))).2) ?_
                  refine XS.bipush X29.here hx rfl (hb hby at_397) ?_
                  refine XS.istore X29.here hx rfl (hb hby at_399) rfl (l' := #[.val (.int p1), .val (.int p2), .val (.int p3), .val (.int p4), .val (.int p5), .val (.int p6), .val (.int of), .val (.ref b), .val (.int lim), .val (.int av), .val (.int xx), .val (.int b1), .val (.int b2), .val (.int b3), .val (.int (3 : Int32)), .val (.int (128 : Int32)), .val (.int (191 : Int32)), .val (.int (-3 : Int32))]) rfl ?_
                  refine XS.goto X29.here hx rfl (pc0 := 401) (pc' := 453) rfl (hb hby at_401) (by decide) (by decide) ?_
                  exact k
                refine ⟨T29, _, (3 : Int32), (128 : Int32), (191 : Int32), X29, e29, N29, fun t k => pre31 t ?_⟩
                have eE : own_E xx.toInt b1.toInt b2.toInt b3.toInt av.toInt = (-3 : Int32) := (lf0_11 (xx.toInt) (b1.toInt) (b2.toInt) (b3.toInt) (av.toInt) r_xx r_b1 r_b2 r_b3 r_av i1 i_hc181_9 i21a i21b i_hc329_23 i25a i25b i_hc373_27 i29)
                rw [eE] at k
                exact k
          · rw [v25] at st25
            have pre32 : ∀ t, Steps p.tables e below (T25.setTop (mkF m 453 #[.val (.int p1), .val (.int p2), .val (.int p3), .val (.int p4), .val (.int p5), .val (.int p6), .val (.int of), .val (.ref b), .val (.int lim), .val (.int av), .val (.int xx), .val (.int b1), .val (.int b2), .val (.int b3), .val (.int (3 : Int32)), .val (.int (128 : Int32)), .val (.int (191 : Int32)), .val (.int (-2 : Int32))] [])) t → Steps p.tables e below (T0.setTop (mkF m 146 #[.val (.int p1), .val (.int p2), .val (.int p3), .val (.int p4), .val (.int p5), .val (.int p6), .val (.int of), .val (.ref b), .val (.int lim), .val (.int av), .val (.int xx), .val (.int b1), .val (.int b2), .val (.int b3), .unset, .unset, .unset, .unset] [])) t := by
              intro t k
              refine pre22 t ?_
              show Steps p.tables e below (T21.setTop (mkF m 329 #[.val (.int p1), .val (.int p2), .val (.int p3), .val (.int p4), .val (.int p5), .val (.int p6), .val (.int of), .val (.ref b), .val (.int lim), .val (.int av), .val (.int xx), .val (.int b1), .val (.int b2), .val (.int b3), .val (.int (3 : Int32)), .val (.int (128 : Int32)), .val (.int (191 : Int32)), .unset] [(.int (1 : Int32)), (.int av)])) _
              refine XS.icmpYes X21.here hx rfl (pc0 := 329) (pc' := 339) rfl (hb hby at_329) rfl (flt hc329_23).2.1 (by decide) (by decide) ?_
              refine XS.iload X21.here hx rfl (hb hby at_339) rfl ?_
              refine XS.iload X21.here hx rfl (hb hby at_341) rfl ?_
              refine XS.iload X21.here hx rfl (hb hby at_343) rfl ?_
              show Steps p.tables e below (T21.setTop (mkF m 345 #[.val (.int p1), .val (.int p2), .val (.int p3), .val (.int p4), .val (.int p5), .val (.int p6), .val (.int of), .val (.ref b), .val (.int lim), .val (.int av), .val (.int xx), .val (.int b1), .val (.int b2), .val (.int b3), .val (.int (3 : Int32)), .val (.int (128 : Int32)), .val (.int (191 : Int32)), .unset] [(.int (191 : Int32)), (.int (128 : Int32)), (.int b1)])) _
              refine st25 _ ?_
              show Steps p.tables e below (T25.setTop (mkF m 348 #[.val (.int p1), .val (.int p2), .val (.int p3), .val (.int p4), .val (.int p5), .val (.int p6), .val (.int of), .val (.ref b), .val (.int lim), .val (.int av), .val (.int xx), .val (.int b1), .val (.int b2), .val (.int b3), .val (.int (3 : Int32)), .val (.int (128 : Int32)), .val (.int (191 : Int32)), .unset] [(.int (0 : Int32))])) _
              refine XS.ifNo X25.here hx rfl (hb hby at_348) rfl ((if0 _ _).trans (teq (by decide : (0 : Int32) = (0 : Int32))).2) ?_
              refine XS.bipush X25.here hx rfl (hb hby at_351) ?_
              refine XS.istore X25.here hx rfl (hb hby at_353) rfl (l' := #[.val (.int p1), .val (.int p2), .val (.int p3), .val (.int p4), .val (.int p5), .val (.int p6), .val (.int of), .val (.ref b), .val (.int lim), .val (.int av), .val (.int xx), .val (.int b1), .val (.int b2), .val (.int b3), .val (.int (3 : Int32)), .val (.int (128 : Int32)), .val (.int (191 : Int32)), .val (.int (-2 : Int32))]) rfl ?_
              refine XS.goto X25.here hx rfl (pc0 := 355) (pc' := 453) rfl (hb hby at_355) (by decide) (by decide) ?_
              exact k
            refine ⟨T25, _, (3 : Int32), (128 : Int32), (191 : Int32), X25, e25, N25, fun t k => pre32 t ?_⟩
            have eE : own_E xx.toInt b1.toInt b2.toInt b3.toInt av.toInt = (-2 : Int32) := (lf0_12 (xx.toInt) (b1.toInt) (b2.toInt) (b3.toInt) (av.toInt) r_xx r_b1 r_b2 r_b3 r_av i1 i_hc181_9 i21a i21b i_hc329_23 i25)
            rw [eE] at k
            exact k
      · rw [v21] at st21
        have pre33 : ∀ t, Steps p.tables e below (T21.setTop (mkF m 220 #[.val (.int p1), .val (.int p2), .val (.int p3), .val (.int p4), .val (.int p5), .val (.int p6), .val (.int of), .val (.ref b), .val (.int lim), .val (.int av), .val (.int xx), .val (.int b1), .val (.int b2), .val (.int b3), .unset, .val (.int (128 : Int32)), .val (.int (191 : Int32)), .unset] [(.int (237 : Int32)), (.int xx)])) t → Steps p.tables e below (T0.setTop (mkF m 146 #[.val (.int p1), .val (.int p2), .val (.int p3), .val (.int p4), .val (.int p5), .val (.int p6), .val (.int of), .val (.ref b), .val (.int lim), .val (.int av), .val (.int xx), .val (.int b1), .val (.int b2), .val (.int b3), .unset, .unset, .unset, .unset] [])) t := by
          intro t k
          refine pre8 t ?_
          show Steps p.tables e below (T1.setTop (mkF m 181 #[.val (.int p1), .val (.int p2), .val (.int p3), .val (.int p4), .val (.int p5), .val (.int p6), .val (.int of), .val (.ref b), .val (.int lim), .val (.int av), .val (.int xx), .val (.int b1), .val (.int b2), .val (.int b3), .unset, .val (.int (128 : Int32)), .val (.int (191 : Int32)), .unset] [(.int (224 : Int32)), (.int xx)])) _
          refine XS.icmpYes X1.here hx rfl (pc0 := 181) (pc' := 195) rfl (hb hby at_181) rfl (feq hc181_9).2 (by decide) (by decide) ?_
          refine XS.iload X1.here hx rfl (hb hby at_195) rfl ?_
          refine XS.sipush X1.here hx rfl (hb hby at_197) ?_
          refine XS.sipush X1.here hx rfl (hb hby at_200) ?_
          show Steps p.tables e below (T1.setTop (mkF m 203 #[.val (.int p1), .val (.int p2), .val (.int p3), .val (.int p4), .val (.int p5), .val (.int p6), .val (.int of), .val (.ref b), .val (.int lim), .val (.int av), .val (.int xx), .val (.int b1), .val (.int b2), .val (.int b3), .unset, .val (.int (128 : Int32)), .val (.int (191 : Int32)), .unset] [(.int (236 : Int32)), (.int (225 : Int32)), (.int xx)])) _
          refine st21 _ ?_
          show Steps p.tables e below (T21.setTop (mkF m 206 #[.val (.int p1), .val (.int p2), .val (.int p3), .val (.int p4), .val (.int p5), .val (.int p6), .val (.int of), .val (.ref b), .val (.int lim), .val (.int av), .val (.int xx), .val (.int b1), .val (.int b2), .val (.int b3), .unset, .val (.int (128 : Int32)), .val (.int (191 : Int32)), .unset] [(.int (0 : Int32))])) _
          refine XS.ifYes X21.here hx rfl (pc0 := 206) (pc' := 215) rfl (hb hby at_206) rfl ((if0 _ _).trans (teq (by decide : (0 : Int32) = (0 : Int32))).1) (by decide) (by decide) ?_
          refine XS.iload X21.here hx rfl (hb hby at_215) rfl ?_
          refine XS.sipush X21.here hx rfl (hb hby at_217) ?_
          exact k
        by_cases hc220_34 : xx = (237 : Int32)
        · have i_hc220_34 : xx.toInt = (237 : Int32).toInt := (Int32.toInt_inj.symm).mp hc220_34
          have pre35 : ∀ t, Steps p.tables e below (T21.setTop (mkF m 329 #[.val (.int p1), .val (.int p2), .val (.int p3), .val (.int p4), .val (.int p5), .val (.int p6), .val (.int of), .val (.ref b), .val (.int lim), .val (.int av), .val (.int xx), .val (.int b1), .val (.int b2), .val (.int b3), .val (.int (3 : Int32)), .val (.int (128 : Int32)), .val (.int (159 : Int32)), .unset] [(.int (1 : Int32)), (.int av)])) t → Steps p.tables e below (T0.setTop (mkF m 146 #[.val (.int p1), .val (.int p2), .val (.int p3), .val (.int p4), .val (.int p5), .val (.int p6), .val (.int of), .val (.ref b), .val (.int lim), .val (.int av), .val (.int xx), .val (.int b1), .val (.int b2), .val (.int b3), .unset, .unset, .unset, .unset] [])) t := by
            intro t k
            refine pre33 t ?_
            show Steps p.tables e below (T21.setTop (mkF m 220 #[.val (.int p1), .val (.int p2), .val (.int p3), .val (.int p4), .val (.int p5), .val (.int p6), .val (.int of), .val (.ref b), .val (.int lim), .val (.int av), .val (.int xx), .val (.int b1), .val (.int b2), .val (.int b3), .unset, .val (.int (128 : Int32)), .val (.int (191 : Int32)), .unset] [(.int (237 : Int32)), (.int xx)])) _
            refine XS.icmpNo X21.here hx rfl (hb hby at_220) rfl (teq hc220_34).2 ?_
            refine XS.iconst X21.here hx rfl (hb hby at_223) ?_
            refine XS.istore X21.here hx rfl (hb hby at_224) rfl (l' := #[.val (.int p1), .val (.int p2), .val (.int p3), .val (.int p4), .val (.int p5), .val (.int p6), .val (.int of), .val (.ref b), .val (.int lim), .val (.int av), .val (.int xx), .val (.int b1), .val (.int b2), .val (.int b3), .val (.int (3 : Int32)), .val (.int (128 : Int32)), .val (.int (191 : Int32)), .unset]) rfl ?_
            refine XS.sipush X21.here hx rfl (hb hby at_226) ?_
            show Steps p.tables e below (T21.setTop (mkF m 229 #[.val (.int p1), .val (.int p2), .val (.int p3), .val (.int p4), .val (.int p5), .val (.int p6), .val (.int of), .val (.ref b), .val (.int lim), .val (.int av), .val (.int xx), .val (.int b1), .val (.int b2), .val (.int b3), .val (.int (3 : Int32)), .val (.int (128 : Int32)), .val (.int (191 : Int32)), .unset] [(.int (159 : Int32))])) _
            refine XS.istore X21.here hx rfl (hb hby at_229) rfl (l' := #[.val (.int p1), .val (.int p2), .val (.int p3), .val (.int p4), .val (.int p5), .val (.int p6), .val (.int of), .val (.ref b), .val (.int lim), .val (.int av), .val (.int xx), .val (.int b1), .val (.int b2), .val (.int b3), .val (.int (3 : Int32)), .val (.int (128 : Int32)), .val (.int (159 : Int32)), .unset]) rfl ?_
            refine XS.goto X21.here hx rfl (pc0 := 231) (pc' := 315) rfl (hb hby at_231) (by decide) (by decide) ?_
            refine XS.iload X21.here hx rfl (hb hby at_315) rfl ?_
            show Steps p.tables e below (T21.setTop (mkF m 317 #[.val (.int p1), .val (.int p2), .val (.int p3), .val (.int p4), .val (.int p5), .val (.int p6), .val (.int of), .val (.ref b), .val (.int lim), .val (.int av), .val (.int xx), .val (.int b1), .val (.int b2), .val (.int b3), .val (.int (3 : Int32)), .val (.int (128 : Int32)), .val (.int (159 : Int32)), .unset] [(.int (3 : Int32))])) _
            refine XS.ifYes X21.here hx rfl (pc0 := 317) (pc' := 326) rfl (hb hby at_317) rfl ((if0 _ _).trans (flt (by decide : ¬ ((3 : Int32) < (0 : Int32)))).2.1) (by decide) (by decide) ?_
            refine XS.iload X21.here hx rfl (hb hby at_326) rfl ?_
            refine XS.iconst X21.here hx rfl (hb hby at_328) ?_
            exact k
          by_cases hc329_36 : av < (1 : Int32)
          · have i_hc329_36 : av.toInt < (1 : Int32).toInt := (Int32.lt_iff_toInt_lt).mp hc329_36
            have pre37 : ∀ t, Steps p.tables e below (T21.setTop (mkF m 453 #[.val (.int p1), .val (.int p2), .val (.int p3), .val (.int p4), .val (.int p5), .val (.int p6), .val (.int of), .val (.ref b), .val (.int lim), .val (.int av), .val (.int xx), .val (.int b1), .val (.int b2), .val (.int b3), .val (.int (3 : Int32)), .val (.int (128 : Int32)), .val (.int (159 : Int32)), .val (.int (-2147483648 : Int32))] [])) t → Steps p.tables e below (T0.setTop (mkF m 146 #[.val (.int p1), .val (.int p2), .val (.int p3), .val (.int p4), .val (.int p5), .val (.int p6), .val (.int of), .val (.ref b), .val (.int lim), .val (.int av), .val (.int xx), .val (.int b1), .val (.int b2), .val (.int b3), .unset, .unset, .unset, .unset] [])) t := by
              intro t k
              refine pre35 t ?_
              show Steps p.tables e below (T21.setTop (mkF m 329 #[.val (.int p1), .val (.int p2), .val (.int p3), .val (.int p4), .val (.int p5), .val (.int p6), .val (.int of), .val (.ref b), .val (.int lim), .val (.int av), .val (.int xx), .val (.int b1), .val (.int b2), .val (.int b3), .val (.int (3 : Int32)), .val (.int (128 : Int32)), .val (.int (159 : Int32)), .unset] [(.int (1 : Int32)), (.int av)])) _
              refine XS.icmpNo X21.here hx rfl (hb hby at_329) rfl (tlt hc329_36).2.1 ?_
              show Steps p.tables e below (T21.setTop (mkF m 332 #[.val (.int p1), .val (.int p2), .val (.int p3), .val (.int p4), .val (.int p5), .val (.int p6), .val (.int of), .val (.ref b), .val (.int lim), .val (.int av), .val (.int xx), .val (.int b1), .val (.int b2), .val (.int b3), .val (.int (3 : Int32)), .val (.int (128 : Int32)), .val (.int (159 : Int32)), .unset] [])) _
              refine X21.ldcInt hx hown (mvT hZ (hw _ (List.mem_of_getElem? (i := 9) rfl))) (g := (mkF m 332 #[.val (.int p1), .val (.int p2), .val (.int p3), .val (.int p4), .val (.int p5), .val (.int p6), .val (.int of), .val (.ref b), .val (.int lim), .val (.int av), .val (.int xx), .val (.int b1), .val (.int b2), .val (.int b3), .val (.int (3 : Int32)), .val (.int (128 : Int32)), .val (.int (159 : Int32)), .unset] [])) rfl (hb hby at_332) _ ?_
              refine XS.istore X21.here hx rfl (hb hby at_334) rfl (l' := #[.val (.int p1), .val (.int p2), .val (.int p3), .val (.int p4), .val (.int p5), .val (.int p6), .val (.int of), .val (.ref b), .val (.int lim), .val (.int av), .val (.int xx), .val (.int b1), .val (.int b2), .val (.int b3), .val (.int (3 : Int32)), .val (.int (128 : Int32)), .val (.int (159 : Int32)), .val (.int (-2147483648 : Int32))]) rfl ?_
              refine XS.goto X21.here hx rfl (pc0 := 336) (pc' := 453) rfl (hb hby at_336) (by decide) (by decide) ?_
              exact k
            refine ⟨T21, _, (3 : Int32), (128 : Int32), (159 : Int32), X21, e21, N21, fun t k => pre37 t ?_⟩
            have eE : own_E xx.toInt b1.toInt b2.toInt b3.toInt av.toInt = (-2147483648 : Int32) := (lf0_13 (xx.toInt) (b1.toInt) (b2.toInt) (b3.toInt) (av.toInt) r_xx r_b1 r_b2 r_b3 r_av i1 i_hc181_9 i21 i_hc220_34 i_hc329_36)
            rw [eE] at k
            exact k
          · have i_hc329_36 : ¬ (av.toInt < (1 : Int32).toInt) := fun q => hc329_36 ((Int32.lt_iff_toInt_lt).mpr q)
            obtain ⟨_, _, ⟨T38, L38, k38, n38⟩, -, X38, ⟨Lc38, hQ38, l38, y38, z38⟩, st38⟩ := Jvm.LawKit.callS X21 hx (y := (⟨"com/example/kindgen/kindgen/runtime/Utf8CursorSequenceLengthPinLaw", "in", "(III)Z"⟩ : MethodName)) hown (mvT hZ (hw _ (List.mem_of_getElem? (i := 1) rfl))) (mvT hZ (hw _ (List.mem_of_getElem? (i := 2) rfl))) (mvT hZ (hw _ (List.mem_of_getElem? (i := 3) rfl))) (mvT hZ (hw _ (List.mem_of_getElem? (i := 4) rfl))) (by decide) (backOf (W := 0) (rm1 l Z a0 hw [] b1 (128 : Int32) (159 : Int32) h0 n0 Z0) hZ (hw _ (List.mem_of_getElem? (i := 4) rfl)) (hw _ (List.mem_of_getElem? (i := 3) rfl)) (by decide) (by decide)) (g := (mkF m 345 #[.val (.int p1), .val (.int p2), .val (.int p3), .val (.int p4), .val (.int p5), .val (.int p6), .val (.int of), .val (.ref b), .val (.int lim), .val (.int av), .val (.int xx), .val (.int b1), .val (.int b2), .val (.int b3), .val (.int (3 : Int32)), .val (.int (128 : Int32)), .val (.int (159 : Int32)), .unset] [(.int (159 : Int32)), (.int (128 : Int32)), (.int b1)])) rfl (by rw [hml]; rfl) (argsL := [(.int b1), (.int (128 : Int32)), (.int (159 : Int32))]) (rest := []) (lenOf pd_0 rfl) rfl (by show 2 * 0 + _ ≤ _; exact Nat.le_of_eq rfl) (hb hby at_345) (fun _ _ => ⟨rfl, e21, (by decide : 1 + 0 ≤ _), (by decide : 5 + 0 ≤ _)⟩)
            dsimp only [Pt.U, Pt.locs, Pt.cells, Pt.slots] at X38 l38 y38 z38 st38 hQ38
            subst l38 y38 z38
            obtain ⟨rfl, N38q, e38⟩ := hQ38
            have N38 := Fr.app N21 N38q
            rcases own_in b1 (128 : Int32) (159 : Int32) with ⟨v38, i38a, i38b⟩ | ⟨v38, i38⟩
            · rw [v38] at st38
              have pre39 : ∀ t, Steps p.tables e below (T38.setTop (mkF m 373 #[.val (.int p1), .val (.int p2), .val (.int p3), .val (.int p4), .val (.int p5), .val (.int p6), .val (.int of), .val (.ref b), .val (.int lim), .val (.int av), .val (.int xx), .val (.int b1), .val (.int b2), .val (.int b3), .val (.int (3 : Int32)), .val (.int (128 : Int32)), .val (.int (159 : Int32)), .unset] [(.int (2 : Int32)), (.int av)])) t → Steps p.tables e below (T0.setTop (mkF m 146 #[.val (.int p1), .val (.int p2), .val (.int p3), .val (.int p4), .val (.int p5), .val (.int p6), .val (.int of), .val (.ref b), .val (.int lim), .val (.int av), .val (.int xx), .val (.int b1), .val (.int b2), .val (.int b3), .unset, .unset, .unset, .unset] [])) t := by
                intro t k
                refine pre35 t ?_
                show Steps p.tables e below (T21.setTop (mkF m 329 #[.val (.int p1), .val (.int p2), .val (.int p3), .val (.int p4), .val (.int p5), .val (.int p6), .val (.int of), .val (.ref b), .val (.int lim), .val (.int av), .val (.int xx), .val (.int b1), .val (.int b2), .val (.int b3), .val (.int (3 : Int32)), .val (.int (128 : Int32)), .val (.int (159 : Int32)), .unset] [(.int (1 : Int32)), (.int av)])) _
                refine XS.icmpYes X21.here hx rfl (pc0 := 329) (pc' := 339) rfl (hb hby at_329) rfl (flt hc329_36).2.1 (by decide) (by decide) ?_
                refine XS.iload X21.here hx rfl (hb hby at_339) rfl ?_
                refine XS.iload X21.here hx rfl (hb hby at_341) rfl ?_
                refine XS.iload X21.here hx rfl (hb hby at_343) rfl ?_
                show Steps p.tables e below (T21.setTop (mkF m 345 #[.val (.int p1), .val (.int p2), .val (.int p3), .val (.int p4), .val (.int p5), .val (.int p6), .val (.int of), .val (.ref b), .val (.int lim), .val (.int av), .val (.int xx), .val (.int b1), .val (.int b2), .val (.int b3), .val (.int (3 : Int32)), .val (.int (128 : Int32)), .val (.int (159 : Int32)), .unset] [(.int (159 : Int32)), (.int (128 : Int32)), (.int b1)])) _
                refine st38 _ ?_
                show Steps p.tables e below (T38.setTop (mkF m 348 #[.val (.int p1), .val (.int p2), .val (.int p3), .val (.int p4), .val (.int p5), .val (.int p6), .val (.int of), .val (.ref b), .val (.int lim), .val (.int av), .val (.int xx), .val (.int b1), .val (.int b2), .val (.int b3), .val (.int (3 : Int32)), .val (.int (128 : Int32)), .val (.int (159 : Int32)), .unset] [(.int (1 : Int32))])) _
                refine XS.ifYes X38.here hx rfl (pc0 := 348) (pc' := 358) rfl (hb hby at_348) rfl ((if0 _ _).trans (feq (by decide : ¬ ((1 : Int32) = (0 : Int32)))).2) (by decide) (by decide) ?_
                refine XS.iload X38.here hx rfl (hb hby at_358) rfl ?_
                refine XS.iconst X38.here hx rfl (hb hby at_360) ?_
                show Steps p.tables e below (T38.setTop (mkF m 361 #[.val (.int p1), .val (.int p2), .val (.int p3), .val (.int p4), .val (.int p5), .val (.int p6), .val (.int of), .val (.ref b), .val (.int lim), .val (.int av), .val (.int xx), .val (.int b1), .val (.int b2), .val (.int b3), .val (.int (3 : Int32)), .val (.int (128 : Int32)), .val (.int (159 : Int32)), .unset] [(.int (2 : Int32)), (.int (3 : Int32))])) _
                refine XS.icmpYes X38.here hx rfl (pc0 := 361) (pc' := 370) rfl (hb hby at_361) rfl (feq (by decide : ¬ ((3 : Int32) = (2 : Int32)))).2 (by decide) (by decide) ?_
                refine XS.iload X38.here hx rfl (hb hby at_370) rfl ?_
                refine XS.iconst X38.here hx rfl (hb hby at_372) ?_
                exact k
              by_cases hc373_40 : av < (2 : Int32)
              · have i_hc373_40 : av.toInt < (2 : Int32).toInt := (Int32.lt_iff_toInt_lt).mp hc373_40
                have pre41 : ∀ t, Steps p.tables e below (T38.setTop (mkF m 453 #[.val (.int p1), .val (.int p2), .val (.int p3), .val (.int p4), .val (.int p5), .val (.int p6), .val (.int of), .val (.ref b), .val (.int lim), .val (.int av), .val (.int xx), .val (.int b1), .val (.int b2), .val (.int b3), .val (.int (3 : Int32)), .val (.int (128 : Int32)), .val (.int (159 : Int32)), .val (.int (-2147483648 : Int32))] [])) t → Steps p.tables e below (T0.setTop (mkF m 146 #[.val (.int p1), .val (.int p2), .val (.int p3), .val (.int p4), .val (.int p5), .val (.int p6), .val (.int of), .val (.ref b), .val (.int lim), .val (.int av), .val (.int xx), .val (.int b1), .val (.int b2), .val (.int b3), .unset, .unset, .unset, .unset] [])) t := by
                  intro t k
                  refine pre39 t ?_
                  show Steps p.tables e below (T38.setTop (mkF m 373 #[.val (.int p1), .val (.int p2), .val (.int p3), .val (.int p4), .val (.int p5), .val (.int p6), .val (.int of), .val (.ref b), .val (.int lim), .val (.int av), .val (.int xx), .val (.int b1), .val (.int b2), .val (.int b3), .val (.int (3 : Int32)), .val (.int (128 : Int32)), .val (.int (159 : Int32)), .unset] [(.int (2 : Int32)), (.int av)])) _
                  refine XS.icmpNo X38.here hx rfl (hb hby at_373) rfl (tlt hc373_40).2.1 ?_
                  show Steps p.tables e below (T38.setTop (mkF m 376 #[.val (.int p1), .val (.int p2), .val (.int p3), .val (.int p4), .val (.int p5), .val (.int p6), .val (.int of), .val (.ref b), .val (.int lim), .val (.int av), .val (.int xx), .val (.int b1), .val (.int b2), .val (.int b3), .val (.int (3 : Int32)), .val (.int (128 : Int32)), .val (.int (159 : Int32)), .unset] [])) _
                  refine X38.ldcInt hx hown (mvT hZ (hw _ (List.mem_of_getElem? (i := 9) rfl))) (g := (mkF m 376 #[.val (.int p1), .val (.int p2), .val (.int p3), .val (.int p4), .val (.int p5), .val (.int p6), .val (.int of), .val (.ref b), .val (.int lim), .val (.int av), .val (.int xx), .val (.int b1), .val (.int b2), .val (.int b3), .val (.int (3 : Int32)), .val (.int (128 : Int32)), .val (.int (159 : Int32)), .unset] [])) rfl (hb hby at_376) _ ?_
                  refine XS.istore X38.here hx rfl (hb hby at_378) rfl (l' := #[.val (.int p1), .val (.int p2), .val (.int p3), .val (.int p4), .val (.int p5), .val (.int p6), .val (.int of), .val (.ref b), .val (.int lim), .val (.int av), .val (.int xx), .val (.int b1), .val (.int b2), .val (.int b3), .val (.int (3 : Int32)), .val (.int (128 : Int32)), .val (.int (159 : Int32)), .val (.int (-2147483648 : Int32))]) rfl ?_
                  refine XS.goto X38.here hx rfl (pc0 := 380) (pc' := 453) rfl (hb hby at_380) (by decide) (by decide) ?_
                  exact k
                refine ⟨T38, _, (3 : Int32), (128 : Int32), (159 : Int32), X38, e38, N38, fun t k => pre41 t ?_⟩
                have eE : own_E xx.toInt b1.toInt b2.toInt b3.toInt av.toInt = (-2147483648 : Int32) := (lf0_14 (xx.toInt) (b1.toInt) (b2.toInt) (b3.toInt) (av.toInt) r_xx r_b1 r_b2 r_b3 r_av i1 i_hc181_9 i21 i_hc220_34 i_hc329_36 i38a i38b i_hc373_40)
                rw [eE] at k
                exact k
              · have i_hc373_40 : ¬ (av.toInt < (2 : Int32).toInt) := fun q => hc373_40 ((Int32.lt_iff_toInt_lt).mpr q)
                obtain ⟨_, _, ⟨T42, L42, k42, n42⟩, -, X42, ⟨Lc42, hQ42, l42, y42, z42⟩, st42⟩ := Jvm.LawKit.callS X38 hx (y := (⟨"com/example/kindgen/kindgen/runtime/Utf8CursorSequenceLengthPinLaw", "in", "(III)Z"⟩ : MethodName)) hown (mvT hZ (hw _ (List.mem_of_getElem? (i := 1) rfl))) (mvT hZ (hw _ (List.mem_of_getElem? (i := 2) rfl))) (mvT hZ (hw _ (List.mem_of_getElem? (i := 3) rfl))) (mvT hZ (hw _ (List.mem_of_getElem? (i := 4) rfl))) (by decide) (backOf (W := 0) (rm1 l Z a0 hw [] b2 (128 : Int32) (191 : Int32) h0 n0 Z0) hZ (hw _ (List.mem_of_getElem? (i := 4) rfl)) (hw _ (List.mem_of_getElem? (i := 3) rfl)) (by decide) (by decide)) (g := (mkF m 391 #[.val (.int p1), .val (.int p2), .val (.int p3), .val (.int p4), .val (.int p5), .val (.int p6), .val (.int of), .val (.ref b), .val (.int lim), .val (.int av), .val (.int xx), .val (.int b1), .val (.int b2), .val (.int b3), .val (.int (3 : Int32)), .val (.int (128 : Int32)), .val (.int (159 : Int32)), .unset] [(.int (191 : Int32)), (.int (128 : Int32)), (.int b2)])) rfl (by rw [hml]; rfl) (argsL := [(.int b2), (.int (128 : Int32)), (.int (191 : Int32))]) (rest := []) (lenOf pd_0 rfl) rfl (by show 2 * 0 + _ ≤ _; exact Nat.le_of_eq rfl) (hb hby at_391) (fun _ _ => ⟨rfl, e38, (by decide : 1 + 0 ≤ _), (by decide : 5 + 0 ≤ _)⟩)
                dsimp only [Pt.U, Pt.locs, Pt.cells, Pt.slots] at X42 l42 y42 z42 st42 hQ42
                subst l42 y42 z42
                obtain ⟨rfl, N42q, e42⟩ := hQ42
                have N42 := Fr.app N38 N42q
                rcases own_in b2 (128 : Int32) (191 : Int32) with ⟨v42, i42a, i42b⟩ | ⟨v42, i42⟩
                · rw [v42] at st42
                  have pre43 : ∀ t, Steps p.tables e below (T42.setTop (mkF m 453 #[.val (.int p1), .val (.int p2), .val (.int p3), .val (.int p4), .val (.int p5), .val (.int p6), .val (.int of), .val (.ref b), .val (.int lim), .val (.int av), .val (.int xx), .val (.int b1), .val (.int b2), .val (.int b3), .val (.int (3 : Int32)), .val (.int (128 : Int32)), .val (.int (159 : Int32)), .val (.int (3 : Int32))] [])) t → Steps p.tables e below (T0.setTop (mkF m 146 #[.val (.int p1), .val (.int p2), .val (.int p3), .val (.int p4), .val (.int p5), .val (.int p6), .val (.int of), .val (.ref b), .val (.int lim), .val (.int av), .val (.int xx), .val (.int b1), .val (.int b2), .val (.int b3), .unset, .unset, .unset, .unset] [])) t := by
                    intro t k
                    refine pre39 t ?_
                    show Steps p.tables e below (T38.setTop (mkF m 373 #[.val (.int p1), .val (.int p2), .val (.int p3), .val (.int p4), .val (.int p5), .val (.int p6), .val (.int of), .val (.ref b), .val (.int lim), .val (.int av), .val (.int xx), .val (.int b1), .val (.int b2), .val (.int b3), .val (.int (3 : Int32)), .val (.int (128 : Int32)), .val (.int (159 : Int32)), .unset] [(.int (2 : Int32)), (.int av)])) _
                    refine XS.icmpYes X38.here hx rfl (pc0 := 373) (pc' := 383) rfl (hb hby at_373) rfl (flt hc373_40).2.1 (by decide) (by decide) ?_
                    refine XS.iload X38.here hx rfl (hb hby at_383) rfl ?_
                    refine XS.sipush X38.here hx rfl (hb hby at_385) ?_
                    refine XS.sipush X38.here hx rfl (hb hby at_388) ?_
                    show Steps p.tables e below (T38.setTop (mkF m 391 #[.val (.int p1), .val (.int p2), .val (.int p3), .val (.int p4), .val (.int p5), .val (.int p6), .val (.int of), .val (.ref b), .val (.int lim), .val (.int av), .val (.int xx), .val (.int b1), .val (.int b2), .val (.int b3), .val (.int (3 : Int32)), .val (.int (128 : Int32)), .val (.int (159 : Int32)), .unset] [(.int (191 : Int32)), (.int (128 : Int32)), (.int b2)])) _
                    refine st42 _ ?_
                    show Steps p.tables e below (T42.setTop (mkF m 394 #[.val (.int p1), .val (.int p2), .val (.int p3), .val (.int p4), .val (.int p5), .val (.int p6), .val (.int of), .val (.ref b), .val (.int lim), .val (.int av), .val (.int xx), .val (.int b1), .val (.int b2), .val (.int b3), .val (.int (3 : Int32)), .val (.int (128 : Int32)), .val (.int (159 : Int32)), .unset] [(.int (1 : Int32))])) _
                    refine XS.ifYes X42.here hx rfl (pc0 := 394) (pc' := 404) rfl (hb hby at_394) rfl ((if0 _ _).trans (feq (by decide : ¬ ((1 : Int32) = (0 : Int32)))).2) (by decide) (by decide) ?_
                    refine XS.iload X42.here hx rfl (hb hby at_404) rfl ?_
                    refine XS.iconst X42.here hx rfl (hb hby at_406) ?_
                    show Steps p.tables e below (T42.setTop (mkF m 407 #[.val (.int p1), .val (.int p2), .val (.int p3), .val (.int p4), .val (.int p5), .val (.int p6), .val (.int of), .val (.ref b), .val (.int lim), .val (.int av), .val (.int xx), .val (.int b1), .val (.int b2), .val (.int b3), .val (.int (3 : Int32)), .val (.int (128 : Int32)), .val (.int (159 : Int32)), .unset] [(.int (3 : Int32)), (.int (3 : Int32))])) _
                    refine XS.icmpNo X42.here hx rfl (hb hby at_407) rfl (teq (by decide : (3 : Int32) = (3 : Int32))).2 ?_
                    refine XS.iconst X42.here hx rfl (hb hby at_410) ?_
                    refine XS.istore X42.here hx rfl (hb hby at_411) rfl (l' := #[.val (.int p1), .val (.int p2), .val (.int p3), .val (.int p4), .val (.int p5), .val (.int p6), .val (.int of), .val (.ref b), .val (.int lim), .val (.int av), .val (.int xx), .val (.int b1), .val (.int b2), .val (.int b3), .val (.int (3 : Int32)), .val (.int (128 : Int32)), .val (.int (159 : Int32)), .val (.int (3 : Int32))]) rfl ?_
                    refine XS.goto X42.here hx rfl (pc0 := 413) (pc' := 453) rfl (hb hby at_413) (by decide) (by decide) ?_
                    exact k
                  refine ⟨T42, _, (3 : Int32), (128 : Int32), (159 : Int32), X42, e42, N42, fun t k => pre43 t ?_⟩
                  have eE : own_E xx.toInt b1.toInt b2.toInt b3.toInt av.toInt = (3 : Int32) := (lf0_15 (xx.toInt) (b1.toInt) (b2.toInt) (b3.toInt) (av.toInt) r_xx r_b1 r_b2 r_b3 r_av i1 i_hc181_9 i21 i_hc220_34 i_hc329_36 i38a i38b i_hc373_40 i42a i42b)
                  rw [eE] at k
                  exact k
                · rw [v42] at st42
                  have pre44 : ∀ t, Steps p.tables e below (T42.setTop (mkF m 453 #[.val (.int p1), .val (.int p2), .val (.int p3), .val (.int p4), .val (.int p5), .val (.int p6), .val (.int of), .val (.ref b), .val (.int lim), .val (.int av), .val (.int xx), .val (.int b1), .val (.int b2), .val (.int b3), .val (.int (3 : Int32)), .val (.int (128 : Int32)), .val (.int (159 : Int32)), .val (.int (-3 : Int32))] [])) t → Steps p.tables e below (T0.setTop (mkF m 146 #[.val (.int p1), .val (.int p2), .val (.int p3), .val (.int p4), .val (.int p5), .val (.int p6), .val (.int of), .val (.ref b), .val (.int lim), .val (.int av), .val (.int xx), .val (.int b1), .val (.int b2), .val (.int b3), .unset, .unset, .unset, .unset] [])) t := by
                    intro t k
                    refine pre39 t ?_
                    show Steps p.tables e below (T38.setTop (mkF m 373 #[.val (.int p1), .val (.int p2), .val (.int p3), .val (.int p4), .val (.int p5), .val (.int p6), .val (.int of), .val (.ref b), .val (.int lim), .val (.int av), .val (.int xx), .val (.int b1), .val (.int b2), .val (.int b3), .val (.int (3 : Int32)), .val (.int (128 : Int32)), .val (.int (159 : Int32)), .unset] [(.int (2 : Int32)), (.int av)])) _
                    refine XS.icmpYes X38.here hx rfl (pc0 := 373) (pc' := 383) rfl (hb hby at_373) rfl (flt hc373_40).2.1 (by decide) (by decide) ?_
                    refine XS.iload X38.here hx rfl (hb hby at_383) rfl ?_
                    refine XS.sipush X38.here hx rfl (hb hby at_385) ?_
                    refine XS.sipush X38.here hx rfl (hb hby at_388) ?_
                    show Steps p.tables e below (T38.setTop (mkF m 391 #[.val (.int p1), .val (.int p2), .val (.int p3), .val (.int p4), .val (.int p5), .val (.int p6), .val (.int of), .val (.ref b), .val (.int lim), .val (.int av), .val (.int xx), .val (.int b1), .val (.int b2), .val (.int b3), .val (.int (3 : Int32)), .val (.int (128 : Int32)), .val (.int (159 : Int32)), .unset] [(.int (191 : Int32)), (.int (128 : Int32)), (.int b2)])) _
                    refine st42 _ ?_
                    show Steps p.tables e below (T42.setTop (mkF m 394 #[.val (.int p1), .val (.int p2), .val (.int p3), .val (.int p4), .val (.int p5), .val (.int p6), .val (.int of), .val (.ref b), .val (.int lim), .val (.int av), .val (.int xx), .val (.int b1), .val (.int b2), .val (.int b3), .val (.int (3 : Int32)), .val (.int (128 : Int32)), .val (.int (159 : Int32)), .unset] [(.int (0 : Int32))])) _
                    refine XS.ifNo X42.here hx rfl (hb hby at_394) rfl ((if0 _ _).trans (teq (by decide : (0 : Int32) = (0 : Int32))).2) ?_
                    refine XS.bipush X42.here hx rfl (hb hby at_397) ?_
                    refine XS.istore X42.here hx rfl (hb hby at_399) rfl (l' := #[.val (.int p1), .val (.int p2), .val (.int p3), .val (.int p4), .val (.int p5), .val (.int p6), .val (.int of), .val (.ref b), .val (.int lim), .val (.int av), .val (.int xx), .val (.int b1), .val (.int b2), .val (.int b3), .val (.int (3 : Int32)), .val (.int (128 : Int32)), .val (.int (159 : Int32)), .val (.int (-3 : Int32))]) rfl ?_
                    refine XS.goto X42.here hx rfl (pc0 := 401) (pc' := 453) rfl (hb hby at_401) (by decide) (by decide) ?_
                    exact k
                  refine ⟨T42, _, (3 : Int32), (128 : Int32), (159 : Int32), X42, e42, N42, fun t k => pre44 t ?_⟩
                  have eE : own_E xx.toInt b1.toInt b2.toInt b3.toInt av.toInt = (-3 : Int32) := (lf0_16 (xx.toInt) (b1.toInt) (b2.toInt) (b3.toInt) (av.toInt) r_xx r_b1 r_b2 r_b3 r_av i1 i_hc181_9 i21 i_hc220_34 i_hc329_36 i38a i38b i_hc373_40 i42)
                  rw [eE] at k
                  exact k
            · rw [v38] at st38
              have pre45 : ∀ t, Steps p.tables e below (T38.setTop (mkF m 453 #[.val (.int p1), .val (.int p2), .val (.int p3), .val (.int p4), .val (.int p5), .val (.int p6), .val (.int of), .val (.ref b), .val (.int lim), .val (.int av), .val (.int xx), .val (.int b1), .val (.int b2), .val (.int b3), .val (.int (3 : Int32)), .val (.int (128 : Int32)), .val (.int (159 : Int32)), .val (.int (-2 : Int32))] [])) t → Steps p.tables e below (T0.setTop (mkF m 146 #[.val (.int p1), .val (.int p2), .val (.int p3), .val (.int p4), .val (.int p5), .val (.int p6), .val (.int of), .val (.ref b), .val (.int lim), .val (.int av), .val (.int xx), .val (.int b1), .val (.int b2), .val (.int b3), .unset, .unset, .unset, .unset] [])) t := by
                intro t k
                refine pre35 t ?_
                show Steps p.tables e below (T21.setTop (mkF m 329 #[.val (.int p1), .val (.int p2), .val (.int p3), .val (.int p4), .val (.int p5), .val (.int p6), .val (.int of), .val (.ref b), .val (.int lim), .val (.int av), .val (.int xx), .val (.int b1), .val (.int b2), .val (.int b3), .val (.int (3 : Int32)), .val (.int (128 : Int32)), .val (.int (159 : Int32)), .unset] [(.int (1 : Int32)), (.int av)])) _
                refine XS.icmpYes X21.here hx rfl (pc0 := 329) (pc' := 339) rfl (hb hby at_329) rfl (flt hc329_36).2.1 (by decide) (by decide) ?_
                refine XS.iload X21.here hx rfl (hb hby at_339) rfl ?_
                refine XS.iload X21.here hx rfl (hb hby at_341) rfl ?_
                refine XS.iload X21.here hx rfl (hb hby at_343) rfl ?_
                show Steps p.tables e below (T21.setTop (mkF m 345 #[.val (.int p1), .val (.int p2), .val (.int p3), .val (.int p4), .val (.int p5), .val (.int p6), .val (.int of), .val (.ref b), .val (.int lim), .val (.int av), .val (.int xx), .val (.int b1), .val (.int b2), .val (.int b3), .val (.int (3 : Int32)), .val (.int (128 : Int32)), .val (.int (159 : Int32)), .unset] [(.int (159 : Int32)), (.int (128 : Int32)), (.int b1)])) _
                refine st38 _ ?_
                show Steps p.tables e below (T38.setTop (mkF m 348 #[.val (.int p1), .val (.int p2), .val (.int p3), .val (.int p4), .val (.int p5), .val (.int p6), .val (.int of), .val (.ref b), .val (.int lim), .val (.int av), .val (.int xx), .val (.int b1), .val (.int b2), .val (.int b3), .val (.int (3 : Int32)), .val (.int (128 : Int32)), .val (.int (159 : Int32)), .unset] [(.int (0 : Int32))])) _
                refine XS.ifNo X38.here hx rfl (hb hby at_348) rfl ((if0 _ _).trans (teq (by decide : (0 : Int32) = (0 : Int32))).2) ?_
                refine XS.bipush X38.here hx rfl (hb hby at_351) ?_
                refine XS.istore X38.here hx rfl (hb hby at_353) rfl (l' := #[.val (.int p1), .val (.int p2), .val (.int p3), .val (.int p4), .val (.int p5), .val (.int p6), .val (.int of), .val (.ref b), .val (.int lim), .val (.int av), .val (.int xx), .val (.int b1), .val (.int b2), .val (.int b3), .val (.int (3 : Int32)), .val (.int (128 : Int32)), .val (.int (159 : Int32)), .val (.int (-2 : Int32))]) rfl ?_
                refine XS.goto X38.here hx rfl (pc0 := 355) (pc' := 453) rfl (hb hby at_355) (by decide) (by decide) ?_
                exact k
              refine ⟨T38, _, (3 : Int32), (128 : Int32), (159 : Int32), X38, e38, N38, fun t k => pre45 t ?_⟩
              have eE : own_E xx.toInt b1.toInt b2.toInt b3.toInt av.toInt = (-2 : Int32) := (lf0_17 (xx.toInt) (b1.toInt) (b2.toInt) (b3.toInt) (av.toInt) r_xx r_b1 r_b2 r_b3 r_av i1 i_hc181_9 i21 i_hc220_34 i_hc329_36 i38)
              rw [eE] at k
              exact k
        · have i_hc220_34 : ¬ (xx.toInt = (237 : Int32).toInt) := fun q => hc220_34 ((Int32.toInt_inj.symm).mpr q)
          obtain ⟨_, _, ⟨T46, L46, k46, n46⟩, -, X46, ⟨Lc46, hQ46, l46, y46, z46⟩, st46⟩ := Jvm.LawKit.callS X21 hx (y := (⟨"com/example/kindgen/kindgen/runtime/Utf8CursorSequenceLengthPinLaw", "in", "(III)Z"⟩ : MethodName)) hown (mvT hZ (hw _ (List.mem_of_getElem? (i := 1) rfl))) (mvT hZ (hw _ (List.mem_of_getElem? (i := 2) rfl))) (mvT hZ (hw _ (List.mem_of_getElem? (i := 3) rfl))) (mvT hZ (hw _ (List.mem_of_getElem? (i := 4) rfl))) (by decide) (backOf (W := 0) (rm1 l Z a0 hw [] xx (238 : Int32) (239 : Int32) h0 n0 Z0) hZ (hw _ (List.mem_of_getElem? (i := 4) rfl)) (hw _ (List.mem_of_getElem? (i := 3) rfl)) (by decide) (by decide)) (g := (mkF m 242 #[.val (.int p1), .val (.int p2), .val (.int p3), .val (.int p4), .val (.int p5), .val (.int p6), .val (.int of), .val (.ref b), .val (.int lim), .val (.int av), .val (.int xx), .val (.int b1), .val (.int b2), .val (.int b3), .unset, .val (.int (128 : Int32)), .val (.int (191 : Int32)), .unset] [(.int (239 : Int32)), (.int (238 : Int32)), (.int xx)])) rfl (by rw [hml]; rfl) (argsL := [(.int xx), (.int (238 : Int32)), (.int (239 : Int32))]) (rest := []) (lenOf pd_0 rfl) rfl (by show 2 * 0 + _ ≤ _; exact Nat.le_of_eq rfl) (hb hby at_242) (fun _ _ => ⟨rfl, e21, (by decide : 1 + 0 ≤ _), (by decide : 5 + 0 ≤ _)⟩)
          dsimp only [Pt.U, Pt.locs, Pt.cells, Pt.slots] at X46 l46 y46 z46 st46 hQ46
          subst l46 y46 z46
          obtain ⟨rfl, N46q, e46⟩ := hQ46
          have N46 := Fr.app N21 N46q
          rcases own_in xx (238 : Int32) (239 : Int32) with ⟨v46, i46a, i46b⟩ | ⟨v46, i46⟩
          · rw [v46] at st46
            have pre47 : ∀ t, Steps p.tables e below (T46.setTop (mkF m 329 #[.val (.int p1), .val (.int p2), .val (.int p3), .val (.int p4), .val (.int p5), .val (.int p6), .val (.int of), .val (.ref b), .val (.int lim), .val (.int av), .val (.int xx), .val (.int b1), .val (.int b2), .val (.int b3), .val (.int (3 : Int32)), .val (.int (128 : Int32)), .val (.int (191 : Int32)), .unset] [(.int (1 : Int32)), (.int av)])) t → Steps p.tables e below (T0.setTop (mkF m 146 #[.val (.int p1), .val (.int p2), .val (.int p3), .val (.int p4), .val (.int p5), .val (.int p6), .val (.int of), .val (.ref b), .val (.int lim), .val (.int av), .val (.int xx), .val (.int b1), .val (.int b2), .val (.int b3), .unset, .unset, .unset, .unset] [])) t := by
              intro t k
              refine pre33 t ?_
              show Steps p.tables e below (T21.setTop (mkF m 220 #[.val (.int p1), .val (.int p2), .val (.int p3), .val (.int p4), .val (.int p5), .val (.int p6), .val (.int of), .val (.ref b), .val (.int lim), .val (.int av), .val (.int xx), .val (.int b1), .val (.int b2), .val (.int b3), .unset, .val (.int (128 : Int32)), .val (.int (191 : Int32)), .unset] [(.int (237 : Int32)), (.int xx)])) _
              refine XS.icmpYes X21.here hx rfl (pc0 := 220) (pc' := 234) rfl (hb hby at_220) rfl (feq hc220_34).2 (by decide) (by decide) ?_
              refine XS.iload X21.here hx rfl (hb hby at_234) rfl ?_
              refine XS.sipush X21.here hx rfl (hb hby at_236) ?_
              refine XS.sipush X21.here hx rfl (hb hby at_239) ?_
              show Steps p.tables e below (T21.setTop (mkF m 242 #[.val (.int p1), .val (.int p2), .val (.int p3), .val (.int p4), .val (.int p5), .val (.int p6), .val (.int of), .val (.ref b), .val (.int lim), .val (.int av), .val (.int xx), .val (.int b1), .val (.int b2), .val (.int b3), .unset, .val (.int (128 : Int32)), .val (.int (191 : Int32)), .unset] [(.int (239 : Int32)), (.int (238 : Int32)), (.int xx)])) _
              refine st46 _ ?_
              show Steps p.tables e below (T46.setTop (mkF m 245 #[.val (.int p1), .val (.int p2), .val (.int p3), .val (.int p4), .val (.int p5), .val (.int p6), .val (.int of), .val (.ref b), .val (.int lim), .val (.int av), .val (.int xx), .val (.int b1), .val (.int b2), .val (.int b3), .unset, .val (.int (128 : Int32)), .val (.int (191 : Int32)), .unset] [(.int (1 : Int32))])) _
              refine XS.ifNo X46.here hx rfl (hb hby at_245) rfl ((if0 _ _).trans (feq (by decide : ¬ ((1 : Int32) = (0 : Int32)))).1) ?_
              refine XS.iconst X46.here hx rfl (hb hby at_248) ?_
              refine XS.istore X46.here hx rfl (hb hby at_249) rfl (l' := #[.val (.int p1), .val (.int p2), .val (.int p3), .val (.int p4), .val (.int p5), .val (.int p6), .val (.int of), .val (.ref b), .val (.int lim), .val (.int av), .val (.int xx), .val (.int b1), .val (.int b2), .val (.int b3), .val (.int (3 : Int32)), .val (.int (128 : Int32)), .val (.int (191 : Int32)), .unset]) rfl ?_
              refine XS.goto X46.here hx rfl (pc0 := 251) (pc' := 315) rfl (hb hby at_251) (by decide) (by decide) ?_
              show Steps p.tables e below (T46.setTop (mkF m 315 #[.val (.int p1), .val (.int p2), .val (.int p3), .val (.int p4), .val (.int p5), .val (.int p6), .val (.int of), .val (.ref b), .val (.int lim), .val (.int av), .val (.int xx), .val (.int b1), .val (.int b2), .val (.int b3), .val (.int (3 : Int32)), .val (.int (128 : Int32)), .val (.int (191 : Int32)), .unset] [])) _
              refine XS.iload X46.here hx rfl (hb hby at_315) rfl ?_
              show Steps p.tables e below (T46.setTop (mkF m 317 #[.val (.int p1), .val (.int p2), .val (.int p3), .val (.int p4), .val (.int p5), .val (.int p6), .val (.int of), .val (.ref b), .val (.int lim), .val (.int av), .val (.int xx), .val (.int b1), .val (.int b2), .val (.int b3), .val (.int (3 : Int32)), .val (.int (128 : Int32)), .val (.int (191 : Int32)), .unset] [(.int (3 : Int32))])) _
              refine XS.ifYes X46.here hx rfl (pc0 := 317) (pc' := 326) rfl (hb hby at_317) rfl ((if0 _ _).trans (flt (by decide : ¬ ((3 : Int32) < (0 : Int32)))).2.1) (by decide) (by decide) ?_
              refine XS.iload X46.here hx rfl (hb hby at_326) rfl ?_
              refine XS.iconst X46.here hx rfl (hb hby at_328) ?_
              exact k
            by_cases hc329_48 : av < (1 : Int32)
            · have i_hc329_48 : av.toInt < (1 : Int32).toInt := (Int32.lt_iff_toInt_lt).mp hc329_48
              have pre49 : ∀ t, Steps p.tables e below (T46.setTop (mkF m 453 #[.val (.int p1), .val (.int p2), .val (.int p3), .val (.int p4), .val (.int p5), .val (.int p6), .val (.int of), .val (.ref b), .val (.int lim), .val (.int av), .val (.int xx), .val (.int b1), .val (.int b2), .val (.int b3), .val (.int (3 : Int32)), .val (.int (128 : Int32)), .val (.int (191 : Int32)), .val (.int (-2147483648 : Int32))] [])) t → Steps p.tables e below (T0.setTop (mkF m 146 #[.val (.int p1), .val (.int p2), .val (.int p3), .val (.int p4), .val (.int p5), .val (.int p6), .val (.int of), .val (.ref b), .val (.int lim), .val (.int av), .val (.int xx), .val (.int b1), .val (.int b2), .val (.int b3), .unset, .unset, .unset, .unset] [])) t := by
                intro t k
                refine pre47 t ?_
                show Steps p.tables e below (T46.setTop (mkF m 329 #[.val (.int p1), .val (.int p2), .val (.int p3), .val (.int p4), .val (.int p5), .val (.int p6), .val (.int of), .val (.ref b), .val (.int lim), .val (.int av), .val (.int xx), .val (.int b1), .val (.int b2), .val (.int b3), .val (.int (3 : Int32)), .val (.int (128 : Int32)), .val (.int (191 : Int32)), .unset] [(.int (1 : Int32)), (.int av)])) _
                refine XS.icmpNo X46.here hx rfl (hb hby at_329) rfl (tlt hc329_48).2.1 ?_
                show Steps p.tables e below (T46.setTop (mkF m 332 #[.val (.int p1), .val (.int p2), .val (.int p3), .val (.int p4), .val (.int p5), .val (.int p6), .val (.int of), .val (.ref b), .val (.int lim), .val (.int av), .val (.int xx), .val (.int b1), .val (.int b2), .val (.int b3), .val (.int (3 : Int32)), .val (.int (128 : Int32)), .val (.int (191 : Int32)), .unset] [])) _
                refine X46.ldcInt hx hown (mvT hZ (hw _ (List.mem_of_getElem? (i := 9) rfl))) (g := (mkF m 332 #[.val (.int p1), .val (.int p2), .val (.int p3), .val (.int p4), .val (.int p5), .val (.int p6), .val (.int of), .val (.ref b), .val (.int lim), .val (.int av), .val (.int xx), .val (.int b1), .val (.int b2), .val (.int b3), .val (.int (3 : Int32)), .val (.int (128 : Int32)), .val (.int (191 : Int32)), .unset] [])) rfl (hb hby at_332) _ ?_
                refine XS.istore X46.here hx rfl (hb hby at_334) rfl (l' := #[.val (.int p1), .val (.int p2), .val (.int p3), .val (.int p4), .val (.int p5), .val (.int p6), .val (.int of), .val (.ref b), .val (.int lim), .val (.int av), .val (.int xx), .val (.int b1), .val (.int b2), .val (.int b3), .val (.int (3 : Int32)), .val (.int (128 : Int32)), .val (.int (191 : Int32)), .val (.int (-2147483648 : Int32))]) rfl ?_
                refine XS.goto X46.here hx rfl (pc0 := 336) (pc' := 453) rfl (hb hby at_336) (by decide) (by decide) ?_
                exact k
              refine ⟨T46, _, (3 : Int32), (128 : Int32), (191 : Int32), X46, e46, N46, fun t k => pre49 t ?_⟩
              have eE : own_E xx.toInt b1.toInt b2.toInt b3.toInt av.toInt = (-2147483648 : Int32) := (lf0_18 (xx.toInt) (b1.toInt) (b2.toInt) (b3.toInt) (av.toInt) r_xx r_b1 r_b2 r_b3 r_av i1 i_hc181_9 i21 i_hc220_34 i46a i46b i_hc329_48)
              rw [eE] at k
              exact k
            · have i_hc329_48 : ¬ (av.toInt < (1 : Int32).toInt) := fun q => hc329_48 ((Int32.lt_iff_toInt_lt).mpr q)
              obtain ⟨_, _, ⟨T50, L50, k50, n50⟩, -, X50, ⟨Lc50, hQ50, l50, y50, z50⟩, st50⟩ := Jvm.LawKit.callS X46 hx (y := (⟨"com/example/kindgen/kindgen/runtime/Utf8CursorSequenceLengthPinLaw", "in", "(III)Z"⟩ : MethodName)) hown (mvT hZ (hw _ (List.mem_of_getElem? (i := 1) rfl))) (mvT hZ (hw _ (List.mem_of_getElem? (i := 2) rfl))) (mvT hZ (hw _ (List.mem_of_getElem? (i := 3) rfl))) (mvT hZ (hw _ (List.mem_of_getElem? (i := 4) rfl))) (by decide) (backOf (W := 0) (rm1 l Z a0 hw [] b1 (128 : Int32) (191 : Int32) h0 n0 Z0) hZ (hw _ (List.mem_of_getElem? (i := 4) rfl)) (hw _ (List.mem_of_getElem? (i := 3) rfl)) (by decide) (by decide)) (g := (mkF m 345 #[.val (.int p1), .val (.int p2), .val (.int p3), .val (.int p4), .val (.int p5), .val (.int p6), .val (.int of), .val (.ref b), .val (.int lim), .val (.int av), .val (.int xx), .val (.int b1), .val (.int b2), .val (.int b3), .val (.int (3 : Int32)), .val (.int (128 : Int32)), .val (.int (191 : Int32)), .unset] [(.int (191 : Int32)), (.int (128 : Int32)), (.int b1)])) rfl (by rw [hml]; rfl) (argsL := [(.int b1), (.int (128 : Int32)), (.int (191 : Int32))]) (rest := []) (lenOf pd_0 rfl) rfl (by show 2 * 0 + _ ≤ _; exact Nat.le_of_eq rfl) (hb hby at_345) (fun _ _ => ⟨rfl, e46, (by decide : 1 + 0 ≤ _), (by decide : 5 + 0 ≤ _)⟩)
              dsimp only [Pt.U, Pt.locs, Pt.cells, Pt.slots] at X50 l50 y50 z50 st50 hQ50
              subst l50 y50 z50
              obtain ⟨rfl, N50q, e50⟩ := hQ50
              have N50 := Fr.app N46 N50q
              rcases own_in b1 (128 : Int32) (191 : Int32) with ⟨v50, i50a, i50b⟩ | ⟨v50, i50⟩
              · rw [v50] at st50
                have pre51 : ∀ t, Steps p.tables e below (T50.setTop (mkF m 373 #[.val (.int p1), .val (.int p2), .val (.int p3), .val (.int p4), .val (.int p5), .val (.int p6), .val (.int of), .val (.ref b), .val (.int lim), .val (.int av), .val (.int xx), .val (.int b1), .val (.int b2), .val (.int b3), .val (.int (3 : Int32)), .val (.int (128 : Int32)), .val (.int (191 : Int32)), .unset] [(.int (2 : Int32)), (.int av)])) t → Steps p.tables e below (T0.setTop (mkF m 146 #[.val (.int p1), .val (.int p2), .val (.int p3), .val (.int p4), .val (.int p5), .val (.int p6), .val (.int of), .val (.ref b), .val (.int lim), .val (.int av), .val (.int xx), .val (.int b1), .val (.int b2), .val (.int b3), .unset, .unset, .unset, .unset] [])) t := by
                  intro t k
                  refine pre47 t ?_
                  show Steps p.tables e below (T46.setTop (mkF m 329 #[.val (.int p1), .val (.int p2), .val (.int p3), .val (.int p4), .val (.int p5), .val (.int p6), .val (.int of), .val (.ref b), .val (.int lim), .val (.int av), .val (.int xx), .val (.int b1), .val (.int b2), .val (.int b3), .val (.int (3 : Int32)), .val (.int (128 : Int32)), .val (.int (191 : Int32)), .unset] [(.int (1 : Int32)), (.int av)])) _
                  refine XS.icmpYes X46.here hx rfl (pc0 := 329) (pc' := 339) rfl (hb hby at_329) rfl (flt hc329_48).2.1 (by decide) (by decide) ?_
                  refine XS.iload X46.here hx rfl (hb hby at_339) rfl ?_
                  refine XS.iload X46.here hx rfl (hb hby at_341) rfl ?_
                  refine XS.iload X46.here hx rfl (hb hby at_343) rfl ?_
                  show Steps p.tables e below (T46.setTop (mkF m 345 #[.val (.int p1), .val (.int p2), .val (.int p3), .val (.int p4), .val (.int p5), .val (.int p6), .val (.int of), .val (.ref b), .val (.int lim), .val (.int av), .val (.int xx), .val (.int b1), .val (.int b2), .val (.int b3), .val (.int (3 : Int32)), .val (.int (128 : Int32)), .val (.int (191 : Int32)), .unset] [(.int (191 : Int32)), (.int (128 : Int32)), (.int b1)])) _
                  refine st50 _ ?_
                  show Steps p.tables e below (T50.setTop (mkF m 348 #[.val (.int p1), .val (.int p2), .val (.int p3), .val (.int p4), .val (.int p5), .val (.int p6), .val (.int of), .val (.ref b), .val (.int lim), .val (.int av), .val (.int xx), .val (.int b1), .val (.int b2), .val (.int b3), .val (.int (3 : Int32)), .val (.int (128 : Int32)), .val (.int (191 : Int32)), .unset] [(.int (1 : Int32))])) _
                  refine XS.ifYes X50.here hx rfl (pc0 := 348) (pc' := 358) rfl (hb hby at_348) rfl ((if0 _ _).trans (feq (by decide : ¬ ((1 : Int32) = (0 : Int32)))).2) (by decide) (by decide) ?_
                  refine XS.iload X50.here hx rfl (hb hby at_358) rfl ?_
                  refine XS.iconst X50.here hx rfl (hb hby at_360) ?_
                  show Steps p.tables e below (T50.setTop (mkF m 361 #[.val (.int p1), .val (.int p2), .val (.int p3), .val (.int p4), .val (.int p5), .val (.int p6), .val (.int of), .val (.ref b), .val (.int lim), .val (.int av), .val (.int xx), .val (.int b1), .val (.int b2), .val (.int b3), .val (.int (3 : Int32)), .val (.int (128 : Int32)), .val (.int (191 : Int32)), .unset] [(.int (2 : Int32)), (.int (3 : Int32))])) _
                  refine XS.icmpYes X50.here hx rfl (pc0 := 361) (pc' := 370) rfl (hb hby at_361) rfl (feq (by decide : ¬ ((3 : Int32) = (2 : Int32)))).2 (by decide) (by decide) ?_
                  refine XS.iload X50.here hx rfl (hb hby at_370) rfl ?_
                  refine XS.iconst X50.here hx rfl (hb hby at_372) ?_
                  exact k
                by_cases hc373_52 : av < (2 : Int32)
                · have i_hc373_52 : av.toInt < (2 : Int32).toInt := (Int32.lt_iff_toInt_lt).mp hc373_52
                  have pre53 : ∀ t, Steps p.tables e below (T50.setTop (mkF m 453 #[.val (.int p1), .val (.int p2), .val (.int p3), .val (.int p4), .val (.int p5), .val (.int p6), .val (.int of), .val (.ref b), .val (.int lim), .val (.int av), .val (.int xx), .val (.int b1), .val (.int b2), .val (.int b3), .val (.int (3 : Int32)), .val (.int (128 : Int32)), .val (.int (191 : Int32)), .val (.int (-2147483648 : Int32))] [])) t → Steps p.tables e below (T0.setTop (mkF m 146 #[.val (.int p1), .val (.int p2), .val (.int p3), .val (.int p4), .val (.int p5), .val (.int p6), .val (.int of), .val (.ref b), .val (.int lim), .val (.int av), .val (.int xx), .val (.int b1), .val (.int b2), .val (.int b3), .unset, .unset, .unset, .unset] [])) t := by
                    intro t k
                    refine pre51 t ?_
                    show Steps p.tables e below (T50.setTop (mkF m 373 #[.val (.int p1), .val (.int p2), .val (.int p3), .val (.int p4), .val (.int p5), .val (.int p6), .val (.int of), .val (.ref b), .val (.int lim), .val (.int av), .val (.int xx), .val (.int b1), .val (.int b2), .val (.int b3), .val (.int (3 : Int32)), .val (.int (128 : Int32)), .val (.int (191 : Int32)), .unset] [(.int (2 : Int32)), (.int av)])) _
                    refine XS.icmpNo X50.here hx rfl (hb hby at_373) rfl (tlt hc373_52).2.1 ?_
                    show Steps p.tables e below (T50.setTop (mkF m 376 #[.val (.int p1), .val (.int p2), .val (.int p3), .val (.int p4), .val (.int p5), .val (.int p6), .val (.int of), .val (.ref b), .val (.int lim), .val (.int av), .val (.int xx), .val (.int b1), .val (.int b2), .val (.int b3), .val (.int (3 : Int32)), .val (.int (128 : Int32)), .val (.int (191 : Int32)), .unset] [])) _
                    refine X50.ldcInt hx hown (mvT hZ (hw _ (List.mem_of_getElem? (i := 9) rfl))) (g := (mkF m 376 #[.val (.int p1), .val (.int p2), .val (.int p3), .val (.int p4), .val (.int p5), .val (.int p6), .val (.int of), .val (.ref b), .val (.int lim), .val (.int av), .val (.int xx), .val (.int b1), .val (.int b2), .val (.int b3), .val (.int (3 : Int32)), .val (.int (128 : Int32)), .val (.int (191 : Int32)), .unset] [])) rfl (hb hby at_376) _ ?_
                    refine XS.istore X50.here hx rfl (hb hby at_378) rfl (l' := #[.val (.int p1), .val (.int p2), .val (.int p3), .val (.int p4), .val (.int p5), .val (.int p6), .val (.int of), .val (.ref b), .val (.int lim), .val (.int av), .val (.int xx), .val (.int b1), .val (.int b2), .val (.int b3), .val (.int (3 : Int32)), .val (.int (128 : Int32)), .val (.int (191 : Int32)), .val (.int (-2147483648 : Int32))]) rfl ?_
                    refine XS.goto X50.here hx rfl (pc0 := 380) (pc' := 453) rfl (hb hby at_380) (by decide) (by decide) ?_
                    exact k
                  refine ⟨T50, _, (3 : Int32), (128 : Int32), (191 : Int32), X50, e50, N50, fun t k => pre53 t ?_⟩
                  have eE : own_E xx.toInt b1.toInt b2.toInt b3.toInt av.toInt = (-2147483648 : Int32) := (lf0_19 (xx.toInt) (b1.toInt) (b2.toInt) (b3.toInt) (av.toInt) r_xx r_b1 r_b2 r_b3 r_av i1 i_hc181_9 i21 i_hc220_34 i46a i46b i_hc329_48 i50a i50b i_hc373_52)
                  rw [eE] at k
                  exact k
                · have i_hc373_52 : ¬ (av.toInt < (2 : Int32).toInt) := fun q => hc373_52 ((Int32.lt_iff_toInt_lt).mpr q)
                  obtain ⟨_, _, ⟨T54, L54, k54, n54⟩, -, X54, ⟨Lc54, hQ54, l54, y54, z54⟩, st54⟩ := Jvm.LawKit.callS X50 hx (y := (⟨"com/example/kindgen/kindgen/runtime/Utf8CursorSequenceLengthPinLaw", "in", "(III)Z"⟩ : MethodName)) hown (mvT hZ (hw _ (List.mem_of_getElem? (i := 1) rfl))) (mvT hZ (hw _ (List.mem_of_getElem? (i := 2) rfl))) (mvT hZ (hw _ (List.mem_of_getElem? (i := 3) rfl))) (mvT hZ (hw _ (List.mem_of_getElem? (i := 4) rfl))) (by decide) (backOf (W := 0) (rm1 l Z a0 hw [] b2 (128 : Int32) (191 : Int32) h0 n0 Z0) hZ (hw _ (List.mem_of_getElem? (i := 4) rfl)) (hw _ (List.mem_of_getElem? (i := 3) rfl)) (by decide) (by decide)) (g := (mkF m 391 #[.val (.int p1), .val (.int p2), .val (.int p3), .val (.int p4), .val (.int p5), .val (.int p6), .val (.int of), .val (.ref b), .val (.int lim), .val (.int av), .val (.int xx), .val (.int b1), .val (.int b2), .val (.int b3), .val (.int (3 : Int32)), .val (.int (128 : Int32)), .val (.int (191 : Int32)), .unset] [(.int (191 : Int32)), (.int (128 : Int32)), (.int b2)])) rfl (by rw [hml]; rfl) (argsL := [(.int b2), (.int (128 : Int32)), (.int (191 : Int32))]) (rest := []) (lenOf pd_0 rfl) rfl (by show 2 * 0 + _ ≤ _; exact Nat.le_of_eq rfl) (hb hby at_391) (fun _ _ => ⟨rfl, e50, (by decide : 1 + 0 ≤ _), (by decide : 5 + 0 ≤ _)⟩)
                  dsimp only [Pt.U, Pt.locs, Pt.cells, Pt.slots] at X54 l54 y54 z54 st54 hQ54
                  subst l54 y54 z54
                  obtain ⟨rfl, N54q, e54⟩ := hQ54
                  have N54 := Fr.app N50 N54q
                  rcases own_in b2 (128 : Int32) (191 : Int32) with ⟨v54, i54a, i54b⟩ | ⟨v54, i54⟩
                  · rw [v54] at st54
                    have pre55 : ∀ t, Steps p.tables e below (T54.setTop (mkF m 453 #[.val (.int p1), .val (.int p2), .val (.int p3), .val (.int p4), .val (.int p5), .val (.int p6), .val (.int of), .val (.ref b), .val (.int lim), .val (.int av), .val (.int xx), .val (.int b1), .val (.int b2), .val (.int b3), .val (.int (3 : Int32)), .val (.int (128 : Int32)), .val (.int (191 : Int32)), .val (.int (3 : Int32))] [])) t → Steps p.tables e below (T0.setTop (mkF m 146 #[.val (.int p1), .val (.int p2), .val (.int p3), .val (.int p4), .val (.int p5), .val (.int p6), .val (.int of), .val (.ref b), .val (.int lim), .val (.int av), .val (.int xx), .val (.int b1), .val (.int b2), .val (.int b3), .unset, .unset, .unset, .unset] [])) t := by
                      intro t k
                      refine pre51 t ?_
                      show Steps p.tables e below (T50.setTop (mkF m 373 #[.val (.int p1), .val (.int p2), .val (.int p3), .val (.int p4), .val (.int p5), .val (.int p6), .val (.int of), .val (.ref b), .val (.int lim), .val (.int av), .val (.int xx), .val (.int b1), .val (.int b2), .val (.int b3), .val (.int (3 : Int32)), .val (.int (128 : Int32)), .val (.int (191 : Int32)), .unset] [(.int (2 : Int32)), (.int av)])) _
                      refine XS.icmpYes X50.here hx rfl (pc0 := 373) (pc' := 383) rfl (hb hby at_373) rfl (flt hc373_52).2.1 (by decide) (by decide) ?_
                      refine XS.iload X50.here hx rfl (hb hby at_383) rfl ?_
                      refine XS.sipush X50.here hx rfl (hb hby at_385) ?_
                      refine XS.sipush X50.here hx rfl (hb hby at_388) ?_
                      show Steps p.tables e below (T50.setTop (mkF m 391 #[.val (.int p1), .val (.int p2), .val (.int p3), .val (.int p4), .val (.int p5), .val (.int p6), .val (.int of), .val (.ref b), .val (.int lim), .val (.int av), .val (.int xx), .val (.int b1), .val (.int b2), .val (.int b3), .val (.int (3 : Int32)), .val (.int (128 : Int32)), .val (.int (191 : Int32)), .unset] [(.int (191 : Int32)), (.int (128 : Int32)), (.int b2)])) _
                      refine st54 _ ?_
                      show Steps p.tables e below (T54.setTop (mkF m 394 #[.val (.int p1), .val (.int p2), .val (.int p3), .val (.int p4), .val (.int p5), .val (.int p6), .val (.int of), .val (.ref b), .val (.int lim), .val (.int av), .val (.int xx), .val (.int b1), .val (.int b2), .val (.int b3), .val (.int (3 : Int32)), .val (.int (128 : Int32)), .val (.int (191 : Int32)), .unset] [(.int (1 : Int32))])) _
                      refine XS.ifYes X54.here hx rfl (pc0 := 394) (pc' := 404) rfl (hb hby at_394) rfl ((if0 _ _).trans (feq (by decide : ¬ ((1 : Int32) = (0 : Int32)))).2) (by decide) (by decide) ?_
                      refine XS.iload X54.here hx rfl (hb hby at_404) rfl ?_
                      refine XS.iconst X54.here hx rfl (hb hby at_406) ?_
                      show Steps p.tables e below (T54.setTop (mkF m 407 #[.val (.int p1), .val (.int p2), .val (.int p3), .val (.int p4), .val (.int p5), .val (.int p6), .val (.int of), .val (.ref b), .val (.int lim), .val (.int av), .val (.int xx), .val (.int b1), .val (.int b2), .val (.int b3), .val (.int (3 : Int32)), .val (.int (128 : Int32)), .val (.int (191 : Int32)), .unset] [(.int (3 : Int32)), (.int (3 : Int32))])) _
                      refine XS.icmpNo X54.here hx rfl (hb hby at_407) rfl (teq (by decide : (3 : Int32) = (3 : Int32))).2 ?_
                      refine XS.iconst X54.here hx rfl (hb hby at_410) ?_
                      refine XS.istore X54.here hx rfl (hb hby at_411) rfl (l' := #[.val (.int p1), .val (.int p2), .val (.int p3), .val (.int p4), .val (.int p5), .val (.int p6), .val (.int of), .val (.ref b), .val (.int lim), .val (.int av), .val (.int xx), .val (.int b1), .val (.int b2), .val (.int b3), .val (.int (3 : Int32)), .val (.int (128 : Int32)), .val (.int (191 : Int32)), .val (.int (3 : Int32))]) rfl ?_
                      refine XS.goto X54.here hx rfl (pc0 := 413) (pc' := 453) rfl (hb hby at_413) (by decide) (by decide) ?_
                      exact k
                    refine ⟨T54, _, (3 : Int32), (128 : Int32), (191 : Int32), X54, e54, N54, fun t k => pre55 t ?_⟩
                    have eE : own_E xx.toInt b1.toInt b2.toInt b3.toInt av.toInt = (3 : Int32) := (lf0_20 (xx.toInt) (b1.toInt) (b2.toInt) (b3.toInt) (av.toInt) r_xx r_b1 r_b2 r_b3 r_av i1 i_hc181_9 i21 i_hc220_34 i46a i46b i_hc329_48 i50a i50b i_hc373_52 i54a i54b)
                    rw [eE] at k
                    exact k
                  · rw [v54] at st54
                    have pre56 : ∀ t, Steps p.tables e below (T54.setTop (mkF m 453 #[.val (.int p1), .val (.int p2), .val (.int p3), .val (.int p4), .val (.int p5), .val (.int p6), .val (.int of), .val (.ref b), .val (.int lim), .val (.int av), .val (.int xx), .val (.int b1), .val (.int b2), .val (.int b3), .val (.int (3 : Int32)), .val (.int (128 : Int32)), .val (.int (191 : Int32)), .val (.int (-3 : Int32))] [])) t → Steps p.tables e below (T0.setTop (mkF m 146 #[.val (.int p1), .val (.int p2), .val (.int p3), .val (.int p4), .val (.int p5), .val (.int p6), .val (.int of), .val (.ref b), .val (.int lim), .val (.int av), .val (.int xx), .val (.int b1), .val (.int b2), .val (.int b3), .unset, .unset, .unset, .unset] [])) t := by
                      intro t k
                      refine pre51 t ?_
                      show Steps p.tables e below (T50.setTop (mkF m 373 #[.val (.int p1), .val (.int p2), .val (.int p3), .val (.int p4), .val (.int p5), .val (.int p6), .val (.int of), .val (.ref b), .val (.int lim), .val (.int av), .val (.int xx), .val (.int b1), .val (.int b2), .val (.int b3), .val (.int (3 : Int32)), .val (.int (128 : Int32)), .val (.int (191 : Int32)), .unset] [(.int (2 : Int32)), (.int av)])) _
                      refine XS.icmpYes X50.here hx rfl (pc0 := 373) (pc' := 383) rfl (hb hby at_373) rfl (flt hc373_52).2.1 (by decide) (by decide) ?_
                      refine XS.iload X50.here hx rfl (hb hby at_383) rfl ?_
                      refine XS.sipush X50.here hx rfl (hb hby at_385) ?_
                      refine XS.sipush X50.here hx rfl (hb hby at_388) ?_
                      show Steps p.tables e below (T50.setTop (mkF m 391 #[.val (.int p1), .val (.int p2), .val (.int p3), .val (.int p4), .val (.int p5), .val (.int p6), .val (.int of), .val (.ref b), .val (.int lim), .val (.int av), .val (.int xx), .val (.int b1), .val (.int b2), .val (.int b3), .val (.int (3 : Int32)), .val (.int (128 : Int32)), .val (.int (191 : Int32)), .unset] [(.int (191 : Int32)), (.int (128 : Int32)), (.int b2)])) _
                      refine st54 _ ?_
                      show Steps p.tables e below (T54.setTop (mkF m 394 #[.val (.int p1), .val (.int p2), .val (.int p3), .val (.int p4), .val (.int p5), .val (.int p6), .val (.int of), .val (.ref b), .val (.int lim), .val (.int av), .val (.int xx), .val (.int b1), .val (.int b2), .val (.int b3), .val (.int (3 : Int32)), .val (.int (128 : Int32)), .val (.int (191 : Int32)), .unset] [(.int (0 : Int32))])) _
                      refine XS.ifNo X54.here hx rfl (hb hby at_394) rfl ((if0 _ _).trans (teq (by decide : (0 : Int32) = (0 : Int32))).2) ?_
                      refine XS.bipush X54.here hx rfl (hb hby at_397) ?_
                      refine XS.istore X54.here hx rfl (hb hby at_399) rfl (l' := #[.val (.int p1), .val (.int p2), .val (.int p3), .val (.int p4), .val (.int p5), .val (.int p6), .val (.int of), .val (.ref b), .val (.int lim), .val (.int av), .val (.int xx), .val (.int b1), .val (.int b2), .val (.int b3), .val (.int (3 : Int32)), .val (.int (128 : Int32)), .val (.int (191 : Int32)), .val (.int (-3 : Int32))]) rfl ?_
                      refine XS.goto X54.here hx rfl (pc0 := 401) (pc' := 453) rfl (hb hby at_401) (by decide) (by decide) ?_
                      exact k
                    refine ⟨T54, _, (3 : Int32), (128 : Int32), (191 : Int32), X54, e54, N54, fun t k => pre56 t ?_⟩
                    have eE : own_E xx.toInt b1.toInt b2.toInt b3.toInt av.toInt = (-3 : Int32) := (lf0_21 (xx.toInt) (b1.toInt) (b2.toInt) (b3.toInt) (av.toInt) r_xx r_b1 r_b2 r_b3 r_av i1 i_hc181_9 i21 i_hc220_34 i46a i46b i_hc329_48 i50a i50b i_hc373_52 i54)
                    rw [eE] at k
                    exact k
              · rw [v50] at st50
                have pre57 : ∀ t, Steps p.tables e below (T50.setTop (mkF m 453 #[.val (.int p1), .val (.int p2), .val (.int p3), .val (.int p4), .val (.int p5), .val (.int p6), .val (.int of), .val (.ref b), .val (.int lim), .val (.int av), .val (.int xx), .val (.int b1), .val (.int b2), .val (.int b3), .val (.int (3 : Int32)), .val (.int (128 : Int32)), .val (.int (191 : Int32)), .val (.int (-2 : Int32))] [])) t → Steps p.tables e below (T0.setTop (mkF m 146 #[.val (.int p1), .val (.int p2), .val (.int p3), .val (.int p4), .val (.int p5), .val (.int p6), .val (.int of), .val (.ref b), .val (.int lim), .val (.int av), .val (.int xx), .val (.int b1), .val (.int b2), .val (.int b3), .unset, .unset, .unset, .unset] [])) t := by
                  intro t k
                  refine pre47 t ?_
                  show Steps p.tables e below (T46.setTop (mkF m 329 #[.val (.int p1), .val (.int p2), .val (.int p3), .val (.int p4), .val (.int p5), .val (.int p6), .val (.int of), .val (.ref b), .val (.int lim), .val (.int av), .val (.int xx), .val (.int b1), .val (.int b2), .val (.int b3), .val (.int (3 : Int32)), .val (.int (128 : Int32)), .val (.int (191 : Int32)), .unset] [(.int (1 : Int32)), (.int av)])) _
                  refine XS.icmpYes X46.here hx rfl (pc0 := 329) (pc' := 339) rfl (hb hby at_329) rfl (flt hc329_48).2.1 (by decide) (by decide) ?_
                  refine XS.iload X46.here hx rfl (hb hby at_339) rfl ?_
                  refine XS.iload X46.here hx rfl (hb hby at_341) rfl ?_
                  refine XS.iload X46.here hx rfl (hb hby at_343) rfl ?_
                  show Steps p.tables e below (T46.setTop (mkF m 345 #[.val (.int p1), .val (.int p2), .val (.int p3), .val (.int p4), .val (.int p5), .val (.int p6), .val (.int of), .val (.ref b), .val (.int lim), .val (.int av), .val (.int xx), .val (.int b1), .val (.int b2), .val (.int b3), .val (.int (3 : Int32)), .val (.int (128 : Int32)), .val (.int (191 : Int32)), .unset] [(.int (191 : Int32)), (.int (128 : Int32)), (.int b1)])) _
                  refine st50 _ ?_
                  show Steps p.tables e below (T50.setTop (mkF m 348 #[.val (.int p1), .val (.int p2), .val (.int p3), .val (.int p4), .val (.int p5), .val (.int p6), .val (.int of), .val (.ref b), .val (.int lim), .val (.int av), .val (.int xx), .val (.int b1), .val (.int b2), .val (.int b3), .val (.int (3 : Int32)), .val (.int (128 : Int32)), .val (.int (191 : Int32)), .unset] [(.int (0 : Int32))])) _
                  refine XS.ifNo X50.here hx rfl (hb hby at_348) rfl ((if0 _ _).trans (teq (by decide : (0 : Int32) = (0 : Int32))).2) ?_
                  refine XS.bipush X50.here hx rfl (hb hby at_351) ?_
                  refine XS.istore X50.here hx rfl (hb hby at_353) rfl (l' := #[.val (.int p1), .val (.int p2), .val (.int p3), .val (.int p4), .val (.int p5), .val (.int p6), .val (.int of), .val (.ref b), .val (.int lim), .val (.int av), .val (.int xx), .val (.int b1), .val (.int b2), .val (.int b3), .val (.int (3 : Int32)), .val (.int (128 : Int32)), .val (.int (191 : Int32)), .val (.int (-2 : Int32))]) rfl ?_
                  refine XS.goto X50.here hx rfl (pc0 := 355) (pc' := 453) rfl (hb hby at_355) (by decide) (by decide) ?_
                  exact k
                refine ⟨T50, _, (3 : Int32), (128 : Int32), (191 : Int32), X50, e50, N50, fun t k => pre57 t ?_⟩
                have eE : own_E xx.toInt b1.toInt b2.toInt b3.toInt av.toInt = (-2 : Int32) := (lf0_22 (xx.toInt) (b1.toInt) (b2.toInt) (b3.toInt) (av.toInt) r_xx r_b1 r_b2 r_b3 r_av i1 i_hc181_9 i21 i_hc220_34 i46a i46b i_hc329_48 i50)
                rw [eE] at k
                exact k
          · rw [v46] at st46
            have pre58 : ∀ t, Steps p.tables e below (T46.setTop (mkF m 259 #[.val (.int p1), .val (.int p2), .val (.int p3), .val (.int p4), .val (.int p5), .val (.int p6), .val (.int of), .val (.ref b), .val (.int lim), .val (.int av), .val (.int xx), .val (.int b1), .val (.int b2), .val (.int b3), .unset, .val (.int (128 : Int32)), .val (.int (191 : Int32)), .unset] [(.int (240 : Int32)), (.int xx)])) t → Steps p.tables e below (T0.setTop (mkF m 146 #[.val (.int p1), .val (.int p2), .val (.int p3), .val (.int p4), .val (.int p5), .val (.int p6), .val (.int of), .val (.ref b), .val (.int lim), .val (.int av), .val (.int xx), .val (.int b1), .val (.int b2), .val (.int b3), .unset, .unset, .unset, .unset] [])) t := by
              intro t k
              refine pre33 t ?_
              show Steps p.tables e below (T21.setTop (mkF m 220 #[.val (.int p1), .val (.int p2), .val (.int p3), .val (.int p4), .val (.int p5), .val (.int p6), .val (.int of), .val (.ref b), .val (.int lim), .val (.int av), .val (.int xx), .val (.int b1), .val (.int b2), .val (.int b3), .unset, .val (.int (128 : Int32)), .val (.int (191 : Int32)), .unset] [(.int (237 : Int32)), (.int xx)])) _
              refine XS.icmpYes X21.here hx rfl (pc0 := 220) (pc' := 234) rfl (hb hby at_220) rfl (feq hc220_34).2 (by decide) (by decide) ?_
              refine XS.iload X21.here hx rfl (hb hby at_234) rfl ?_
              refine XS.sipush X21.here hx rfl (hb hby at_236) ?_
              refine XS.sipush X21.here hx rfl (hb hby at_239) ?_
              show Steps p.tables e below (T21.setTop (mkF m 242 #[.val (.int p1), .val (.int p2), .val (.int p3), .val (.int p4), .val (.int p5), .val (.int p6), .val (.int of), .val (.ref b), .val (.int lim), .val (.int av), .val (.int xx), .val (.int b1), .val (.int b2), .val (.int b3), .unset, .val (.int (128 : Int32)), .val (.int (191 : Int32)), .unset] [(.int (239 : Int32)), (.int (238 : Int32)), (.int xx)])) _
              refine st46 _ ?_
              show Steps p.tables e below (T46.setTop (mkF m 245 #[.val (.int p1), .val (.int p2), .val (.int p3), .val (.int p4), .val (.int p5), .val (.int p6), .val (.int of), .val (.ref b), .val (.int lim), .val (.int av), .val (.int xx), .val (.int b1), .val (.int b2), .val (.int b3), .unset, .val (.int (128 : Int32)), .val (.int (191 : Int32)), .unset] [(.int (0 : Int32))])) _
              refine XS.ifYes X46.here hx rfl (pc0 := 245) (pc' := 254) rfl (hb hby at_245) rfl ((if0 _ _).trans (teq (by decide : (0 : Int32) = (0 : Int32))).1) (by decide) (by decide) ?_
              refine XS.iload X46.here hx rfl (hb hby at_254) rfl ?_
              refine XS.sipush X46.here hx rfl (hb hby at_256) ?_
              exact k
            by_cases hc259_59 : xx = (240 : Int32)
            · have i_hc259_59 : xx.toInt = (240 : Int32).toInt := (Int32.toInt_inj.symm).mp hc259_59
              have pre60 : ∀ t, Steps p.tables e below (T46.setTop (mkF m 329 #[.val (.int p1), .val (.int p2), .val (.int p3), .val (.int p4), .val (.int p5), .val (.int p6), .val (.int of), .val (.ref b), .val (.int lim), .val (.int av), .val (.int xx), .val (.int b1), .val (.int b2), .val (.int b3), .val (.int (4 : Int32)), .val (.int (144 : Int32)), .val (.int (191 : Int32)), .unset] [(.int (1 : Int32)), (.int av)])) t → Steps p.tables e below (T0.setTop (mkF m 146 #[.val (.int p1), .val (.int p2), .val (.int p3), .val (.int p4), .val (.int p5), .val (.int p6), .val (.int of), .val (.ref b), .val (.int lim), .val (.int av), .val (.int xx), .val (.int b1), .val (.int b2), .val (.int b3), .unset, .unset, .unset, .unset] [])) t := by
                intro t k
                refine pre58 t ?_
                show Steps p.tables e below (T46.setTop (mkF m 259 #[.val (.int p1), .val (.int p2), .val (.int p3), .val (.int p4), .val (.int p5), .val (.int p6), .val (.int of), .val (.ref b), .val (.int lim), .val (.int av), .val (.int xx), .val (.int b1), .val (.int b2), .val (.int b3), .unset, .val (.int (128 : Int32)), .val (.int (191 : Int32)), .unset] [(.int (240 : Int32)), (.int xx)])) _
                refine XS.icmpNo X46.here hx rfl (hb hby at_259) rfl (teq hc259_59).2 ?_
                refine XS.iconst X46.here hx rfl (hb hby at_262) ?_
                refine XS.istore X46.here hx rfl (hb hby at_263) rfl (l' := #[.val (.int p1), .val (.int p2), .val (.int p3), .val (.int p4), .val (.int p5), .val (.int p6), .val (.int of), .val (.ref b), .val (.int lim), .val (.int av), .val (.int xx), .val (.int b1), .val (.int b2), .val (.int b3), .val (.int (4 : Int32)), .val (.int (128 : Int32)), .val (.int (191 : Int32)), .unset]) rfl ?_
                refine XS.sipush X46.here hx rfl (hb hby at_265) ?_
                show Steps p.tables e below (T46.setTop (mkF m 268 #[.val (.int p1), .val (.int p2), .val (.int p3), .val (.int p4), .val (.int p5), .val (.int p6), .val (.int of), .val (.ref b), .val (.int lim), .val (.int av), .val (.int xx), .val (.int b1), .val (.int b2), .val (.int b3), .val (.int (4 : Int32)), .val (.int (128 : Int32)), .val (.int (191 : Int32)), .unset] [(.int (144 : Int32))])) _
                refine XS.istore X46.here hx rfl (hb hby at_268) rfl (l' := #[.val (.int p1), .val (.int p2), .val (.int p3), .val (.int p4), .val (.int p5), .val (.int p6), .val (.int of), .val (.ref b), .val (.int lim), .val (.int av), .val (.int xx), .val (.int b1), .val (.int b2), .val (.int b3), .val (.int (4 : Int32)), .val (.int (144 : Int32)), .val (.int (191 : Int32)), .unset]) rfl ?_
                refine XS.goto X46.here hx rfl (pc0 := 270) (pc' := 315) rfl (hb hby at_270) (by decide) (by decide) ?_
                refine XS.iload X46.here hx rfl (hb hby at_315) rfl ?_
                show Steps p.tables e below (T46.setTop (mkF m 317 #[.val (.int p1), .val (.int p2), .val (.int p3), .val (.int p4), .val (.int p5), .val (.int p6), .val (.int of), .val (.ref b), .val (.int lim), .val (.int av), .val (.int xx), .val (.int b1), .val (.int b2), .val (.int b3), .val (.int (4 : Int32)), .val (.int (144 : Int32)), .val (.int (191 : Int32)), .unset] [(.int (4 : Int32))])) _
                refine XS.ifYes X46.here hx rfl (pc0 := 317) (pc' := 326) rfl (hb hby at_317) rfl ((if0 _ _).trans (flt (by decide : ¬ ((4 : Int32) < (0 : Int32)))).2.1) (by decide) (by decide) ?_
                refine XS.iload X46.here hx rfl (hb hby at_326) rfl ?_
                refine XS.iconst X46.here hx rfl (hb hby at_328) ?_
                exact k
              by_cases hc329_61 : av < (1 : Int32)
              · have i_hc329_61 : av.toInt < (1 : Int32).toInt := (Int32.lt_iff_toInt_lt).mp hc329_61
                have pre62 : ∀ t, Steps p.tables e below (T46.setTop (mkF m 453 #[.val (.int p1), .val (.int p2), .val (.int p3), .val (.int p4), .val (.int p5), .val (.int p6), .val (.int of), .val (.ref b), .val (.int lim), .val (.int av), .val (.int xx), .val (.int b1), .val (.int b2), .val (.int b3), .val (.int (4 : Int32)), .val (.int (144 : Int32)), .val (.int (191 : Int32)), .val (.int (-2147483648 : Int32))] [])) t → Steps p.tables e below (T0.setTop (mkF m 146 #[.val (.int p1), .val (.int p2), .val (.int p3), .val (.int p4), .val (.int p5), .val (.int p6), .val (.int of), .val (.ref b), .val (.int lim), .val (.int av), .val (.int xx), .val (.int b1), .val (.int b2), .val (.int b3), .unset, .unset, .unset, .unset] [])) t := by
                  intro t k
                  refine pre60 t ?_
                  show Steps p.tables e below (T46.setTop (mkF m 329 #[.val (.int p1), .val (.int p2), .val (.int p3), .val (.int p4), .val (.int p5), .val (.int p6), .val (.int of), .val (.ref b), .val (.int lim), .val (.int av), .val (.int xx), .val (.int b1), .val (.int b2), .val (.int b3), .val (.int (4 : Int32)), .val (.int (144 : Int32)), .val (.int (191 : Int32)), .unset] [(.int (1 : Int32)), (.int av)])) _
                  refine XS.icmpNo X46.here hx rfl (hb hby at_329) rfl (tlt hc329_61).2.1 ?_
                  show Steps p.tables e below (T46.setTop (mkF m 332 #[.val (.int p1), .val (.int p2), .val (.int p3), .val (.int p4), .val (.int p5), .val (.int p6), .val (.int of), .val (.ref b), .val (.int lim), .val (.int av), .val (.int xx), .val (.int b1), .val (.int b2), .val (.int b3), .val (.int (4 : Int32)), .val (.int (144 : Int32)), .val (.int (191 : Int32)), .unset] [])) _
                  refine X46.ldcInt hx hown (mvT hZ (hw _ (List.mem_of_getElem? (i := 9) rfl))) (g := (mkF m 332 #[.val (.int p1), .val (.int p2), .val (.int p3), .val (.int p4), .val (.int p5), .val (.int p6), .val (.int of), .val (.ref b), .val (.int lim), .val (.int av), .val (.int xx), .val (.int b1), .val (.int b2), .val (.int b3), .val (.int (4 : Int32)), .val (.int (144 : Int32)), .val (.int (191 : Int32)), .unset] [])) rfl (hb hby at_332) _ ?_
                  refine XS.istore X46.here hx rfl (hb hby at_334) rfl (l' := #[.val (.int p1), .val (.int p2), .val (.int p3), .val (.int p4), .val (.int p5), .val (.int p6), .val (.int of), .val (.ref b), .val (.int lim), .val (.int av), .val (.int xx), .val (.int b1), .val (.int b2), .val (.int b3), .val (.int (4 : Int32)), .val (.int (144 : Int32)), .val (.int (191 : Int32)), .val (.int (-2147483648 : Int32))]) rfl ?_
                  refine XS.goto X46.here hx rfl (pc0 := 336) (pc' := 453) rfl (hb hby at_336) (by decide) (by decide) ?_
                  exact k
                refine ⟨T46, _, (4 : Int32), (144 : Int32), (191 : Int32), X46, e46, N46, fun t k => pre62 t ?_⟩
                have eE : own_E xx.toInt b1.toInt b2.toInt b3.toInt av.toInt = (-2147483648 : Int32) := (lf0_23 (xx.toInt) (b1.toInt) (b2.toInt) (b3.toInt) (av.toInt) r_xx r_b1 r_b2 r_b3 r_av i1 i_hc181_9 i21 i_hc220_34 i46 i_hc259_59 i_hc329_61)
                rw [eE] at k
                exact k
              · have i_hc329_61 : ¬ (av.toInt < (1 : Int32).toInt) := fun q => hc329_61 ((Int32.lt_iff_toInt_lt).mpr q)
                obtain ⟨_, _, ⟨T63, L63, k63, n63⟩, -, X63, ⟨Lc63, hQ63, l63, y63, z63⟩, st63⟩ := Jvm.LawKit.callS X46 hx (y := (⟨"com/example/kindgen/kindgen/runtime/Utf8CursorSequenceLengthPinLaw", "in", "(III)Z"⟩ : MethodName)) hown (mvT hZ (hw _ (List.mem_of_getElem? (i := 1) rfl))) (mvT hZ (hw _ (List.mem_of_getElem? (i := 2) rfl))) (mvT hZ (hw _ (List.mem_of_getElem? (i := 3) rfl))) (mvT hZ (hw _ (List.mem_of_getElem? (i := 4) rfl))) (by decide) (backOf (W := 0) (rm1 l Z a0 hw [] b1 (144 : Int32) (191 : Int32) h0 n0 Z0) hZ (hw _ (List.mem_of_getElem? (i := 4) rfl)) (hw _ (List.mem_of_getElem? (i := 3) rfl)) (by decide) (by decide)) (g := (mkF m 345 #[.val (.int p1), .val (.int p2), .val (.int p3), .val (.int p4), .val (.int p5), .val (.int p6), .val (.int of), .val (.ref b), .val (.int lim), .val (.int av), .val (.int xx), .val (.int b1), .val (.int b2), .val (.int b3), .val (.int (4 : Int32)), .val (.int (144 : Int32)), .val (.int (191 : Int32)), .unset] [(.int (191 : Int32)), (.int (144 : Int32)), (.int b1)])) rfl (by rw [hml]; rfl) (argsL := [(.int b1), (.int (144 : Int32)), (.int (191 : Int32))]) (rest := []) (lenOf pd_0 rfl) rfl (by show 2 * 0 + _ ≤ _; exact Nat.le_of_eq rfl) (hb hby at_345) (fun _ _ => ⟨rfl, e46, (by decide : 1 + 0 ≤ _), (by decide : 5 + 0 ≤ _)⟩)
                dsimp only [Pt.U, Pt.locs, Pt.cells, Pt.slots] at X63 l63 y63 z63 st63 hQ63
                subst l63 y63 z63
                obtain ⟨rfl, N63q, e63⟩ := hQ63
                have N63 := Fr.app N46 N63q
                rcases own_in b1 (144 : Int32) (191 : Int32) with ⟨v63, i63a, i63b⟩ | ⟨v63, i63⟩
                · rw [v63] at st63
                  have pre64 : ∀ t, Steps p.tables e below (T63.setTop (mkF m 373 #[.val (.int p1), .val (.int p2), .val (.int p3), .val (.int p4), .val (.int p5), .val (.int p6), .val (.int of), .val (.ref b), .val (.int lim), .val (.int av), .val (.int xx), .val (.int b1), .val (.int b2), .val (.int b3), .val (.int (4 : Int32)), .val (.int (144 : Int32)), .val (.int (191 : Int32)), .unset] [(.int (2 : Int32)), (.int av)])) t → Steps p.tables e below (T0.setTop (mkF m 146 #[.val (.int p1), .val (.int p2), .val (.int p3), .val (.int p4), .val (.int p5), .val (.int p6), .val (.int of), .val (.ref b), .val (.int lim), .val (.int av), .val (.int xx), .val (.int b1), .val (.int b2), .val (.int b3), .unset, .unset, .unset, .unset] [])) t := by
                    intro t k
                    refine pre60 t ?_
                    show Steps p.tables e below (T46.setTop (mkF m 329 #[.val (.int p1), .val (.int p2), .val (.int p3), .val (.int p4), .val (.int p5), .val (.int p6), .val (.int of), .val (.ref b), .val (.int lim), .val (.int av), .val (.int xx), .val (.int b1), .val (.int b2), .val (.int b3), .val (.int (4 : Int32)), .val (.int (144 : Int32)), .val (.int (191 : Int32)), .unset] [(.int (1 : Int32)), (.int av)])) _
                    refine XS.icmpYes X46.here hx rfl (pc0 := 329) (pc' := 339) rfl (hb hby at_329) rfl (flt hc329_61).2.1 (by decide) (by decide) ?_
                    refine XS.iload X46.here hx rfl (hb hby at_339) rfl ?_
                    refine XS.iload X46.here hx rfl (hb hby at_341) rfl ?_
                    refine XS.iload X46.here hx rfl (hb hby at_343) rfl ?_
                    show Steps p.tables e below (T46.setTop (mkF m 345 #[.val (.int p1), .val (.int p2), .val (.int p3), .val (.int p4), .val (.int p5), .val (.int p6), .val (.int of), .val (.ref b), .val (.int lim), .val (.int av), .val (.int xx), .val (.int b1), .val (.int b2), .val (.int b3), .val (.int (4 : Int32)), .val (.int (144 : Int32)), .val (.int (191 : Int32)), .unset] [(.int (191 : Int32)), (.int (144 : Int32)), (.int b1)])) _
                    refine st63 _ ?_
                    show Steps p.tables e below (T63.setTop (mkF m 348 #[.val (.int p1), .val (.int p2), .val (.int p3), .val (.int p4), .val (.int p5), .val (.int p6), .val (.int of), .val (.ref b), .val (.int lim), .val (.int av), .val (.int xx), .val (.int b1), .val (.int b2), .val (.int b3), .val (.int (4 : Int32)), .val (.int (144 : Int32)), .val (.int (191 : Int32)), .unset] [(.int (1 : Int32))])) _
                    refine XS.ifYes X63.here hx rfl (pc0 := 348) (pc' := 358) rfl (hb hby at_348) rfl ((if0 _ _).trans (feq (by decide : ¬ ((1 : Int32) = (0 : Int32)))).2) (by decide) (by decide) ?_
                    refine XS.iload X63.here hx rfl (hb hby at_358) rfl ?_
                    refine XS.iconst X63.here hx rfl (hb hby at_360) ?_
                    show Steps p.tables e below (T63.setTop (mkF m 361 #[.val (.int p1), .val (.int p2), .val (.int p3), .val (.int p4), .val (.int p5), .val (.int p6), .val (.int of), .val (.ref b), .val (.int lim), .val (.int av), .val (.int xx), .val (.int b1), .val (.int b2), .val (.int b3), .val (.int (4 : Int32)), .val (.int (144 : Int32)), .val (.int (191 : Int32)), .unset] [(.int (2 : Int32)), (.int (4 : Int32))])) _
                    refine XS.icmpYes X63.here hx rfl (pc0 := 361) (pc' := 370) rfl (hb hby at_361) rfl (feq (by decide : ¬ ((4 : Int32) = (2 : Int32)))).2 (by decide) (by decide) ?_
                    refine XS.iload X63.here hx rfl (hb hby at_370) rfl ?_
                    refine XS.iconst X63.here hx rfl (hb hby at_372) ?_
                    exact k
                  by_cases hc373_65 : av < (2 : Int32)
                  · have i_hc373_65 : av.toInt < (2 : Int32).toInt := (Int32.lt_iff_toInt_lt).mp hc373_65
                    have pre66 : ∀ t, Steps p.tables e below (T63.setTop (mkF m 453 #[.val (.int p1), .val (.int p2), .val (.int p3), .val (.int p4), .val (.int p5), .val (.int p6), .val (.int of), .val (.ref b), .val (.int lim), .val (.int av), .val (.int xx), .val (.int b1), .val (.int b2), .val (.int b3), .val (.int (4 : Int32)), .val (.int (144 : Int32)), .val (.int (191 : Int32)), .val (.int (-2147483648 : Int32))] [])) t → Steps p.tables e below (T0.setTop (mkF m 146 #[.val (.int p1), .val (.int p2), .val (.int p3), .val (.int p4), .val (.int p5), .val (.int p6), .val (.int of), .val (.ref b), .val (.int lim), .val (.int av), .val (.int xx), .val (.int b1), .val (.int b2), .val (.int b3), .unset, .unset, .unset, .unset] [])) t := by
                      intro t k
                      refine pre64 t ?_
                      show Steps p.tables e below (T63.setTop (mkF m 373 #[.val (.int p1), .val (.int p2), .val (.int p3), .val (.int p4), .val (.int p5), .val (.int p6), .val (.int of), .val (.ref b), .val (.int lim), .val (.int av), .val (.int xx), .val (.int b1), .val (.int b2), .val (.int b3), .val (.int (4 : Int32)), .val (.int (144 : Int32)), .val (.int (191 : Int32)), .unset] [(.int (2 : Int32)), (.int av)])) _
                      refine XS.icmpNo X63.here hx rfl (hb hby at_373) rfl (tlt hc373_65).2.1 ?_
                      show Steps p.tables e below (T63.setTop (mkF m 376 #[.val (.int p1), .val (.int p2), .val (.int p3), .val (.int p4), .val (.int p5), .val (.int p6), .val (.int of), .val (.ref b), .val (.int lim), .val (.int av), .val (.int xx), .val (.int b1), .val (.int b2), .val (.int b3), .val (.int (4 : Int32)), .val (.int (144 : Int32)), .val (.int (191 : Int32)), .unset] [])) _
                      refine X63.ldcInt hx hown (mvT hZ (hw _ (List.mem_of_getElem? (i := 9) rfl))) (g := (mkF m 376 #[.val (.int p1), .val (.int p2), .val (.int p3), .val (.int p4), .val (.int p5), .val (.int p6), .val (.int of), .val (.ref b), .val (.int lim), .val (.int av), .val (.int xx), .val (.int b1), .val (.int b2), .val (.int b3), .val (.int (4 : Int32)), .val (.int (144 : Int32)), .val (.int (191 : Int32)), .unset] [])) rfl (hb hby at_376) _ ?_
                      refine XS.istore X63.here hx rfl (hb hby at_378) rfl (l' := #[.val (.int p1), .val (.int p2), .val (.int p3), .val (.int p4), .val (.int p5), .val (.int p6), .val (.int of), .val (.ref b), .val (.int lim), .val (.int av), .val (.int xx), .val (.int b1), .val (.int b2), .val (.int b3), .val (.int (4 : Int32)), .val (.int (144 : Int32)), .val (.int (191 : Int32)), .val (.int (-2147483648 : Int32))]) rfl ?_
                      refine XS.goto X63.here hx rfl (pc0 := 380) (pc' := 453) rfl (hb hby at_380) (by decide) (by decide) ?_
                      exact k
                    refine ⟨T63, _, (4 : Int32), (144 : Int32), (191 : Int32), X63, e63, N63, fun t k => pre66 t ?_⟩
                    have eE : own_E xx.toInt b1.toInt b2.toInt b3.toInt av.toInt = (-2147483648 : Int32) := (lf0_24 (xx.toInt) (b1.toInt) (b2.toInt) (b3.toInt) (av.toInt) r_xx r_b1 r_b2 r_b3 r_av i1 i_hc181_9 i21 i_hc220_34 i46 i_hc259_59 i_hc329_61 i63a i63b i_hc373_65)
                    rw [eE] at k
                    exact k
                  · have i_hc373_65 : ¬ (av.toInt < (2 : Int32).toInt) := fun q => hc373_65 ((Int32.lt_iff_toInt_lt).mpr q)
                    obtain ⟨_, _, ⟨T67, L67, k67, n67⟩, -, X67, ⟨Lc67, hQ67, l67, y67, z67⟩, st67⟩ := Jvm.LawKit.callS X63 hx (y := (⟨"com/example/kindgen/kindgen/runtime/Utf8CursorSequenceLengthPinLaw", "in", "(III)Z"⟩ : MethodName)) hown (mvT hZ (hw _ (List.mem_of_getElem? (i := 1) rfl))) (mvT hZ (hw _ (List.mem_of_getElem? (i := 2) rfl))) (mvT hZ (hw _ (List.mem_of_getElem? (i := 3) rfl))) (mvT hZ (hw _ (List.mem_of_getElem? (i := 4) rfl))) (by decide) (backOf (W := 0) (rm1 l Z a0 hw [] b2 (128 : Int32) (191 : Int32) h0 n0 Z0) hZ (hw _ (List.mem_of_getElem? (i := 4) rfl)) (hw _ (List.mem_of_getElem? (i := 3) rfl)) (by decide) (by decide)) (g := (mkF m 391 #[.val (.int p1), .val (.int p2), .val (.int p3), .val (.int p4), .val (.int p5), .val (.int p6), .val (.int of), .val (.ref b), .val (.int lim), .val (.int av), .val (.int xx), .val (.int b1), .val (.int b2), .val (.int b3), .val (.int (4 : Int32)), .val (.int (144 : Int32)), .val (.int (191 : Int32)), .unset] [(.int (191 : Int32)), (.int (128 : Int32)), (.int b2)])) rfl (by rw [hml]; rfl) (argsL := [(.int b2), (.int (128 : Int32)), (.int (191 : Int32))]) (rest := []) (lenOf pd_0 rfl) rfl (by show 2 * 0 + _ ≤ _; exact Nat.le_of_eq rfl) (hb hby at_391) (fun _ _ => ⟨rfl, e63, (by decide : 1 + 0 ≤ _), (by decide : 5 + 0 ≤ _)⟩)
                    dsimp only [Pt.U, Pt.locs, Pt.cells, Pt.slots] at X67 l67 y67 z67 st67 hQ67
                    subst l67 y67 z67
                    obtain ⟨rfl, N67q, e67⟩ := hQ67
                    have N67 := Fr.app N63 N67q
                    rcases own_in b2 (128 : Int32) (191 : Int32) with ⟨v67, i67a, i67b⟩ | ⟨v67, i67⟩
                    · rw [v67] at st67
                      have pre68 : ∀ t, Steps p.tables e below (T67.setTop (mkF m 419 #[.val (.int p1), .val (.int p2), .val (.int p3), .val (.int p4), .val (.int p5), .val (.int p6), .val (.int of), .val (.ref b), .val (.int lim), .val (.int av), .val (.int xx), .val (.int b1), .val (.int b2), .val (.int b3), .val (.int (4 : Int32)), .val (.int (144 : Int32)), .val (.int (191 : Int32)), .unset] [(.int (3 : Int32)), (.int av)])) t → Steps p.tables e below (T0.setTop (mkF m 146 #[.val (.int p1), .val (.int p2), .val (.int p3), .val (.int p4), .val (.int p5), .val (.int p6), .val (.int of), .val (.ref b), .val (.int lim), .val (.int av), .val (.int xx), .val (.int b1), .val (.int b2), .val (.int b3), .unset, .unset, .unset, .unset] [])) t := by
                        intro t k
                        refine pre64 t ?_
                        show Steps p.tables e below (T63.setTop (mkF m 373 #[.val (.int p1), .val (.int p2), .val (.int p3), .val (.int p4), .val (.int p5), .val (.int p6), .val (.int of), .val (.ref b), .val (.int lim), .val (.int av), .val (.int xx), .val (.int b1), .val (.int b2), .val (.int b3), .val (.int (4 : Int32)), .val (.int (144 : Int32)), .val (.int (191 : Int32)), .unset] [(.int (2 : Int32)), (.int av)])) _
                        refine XS.icmpYes X63.here hx rfl (pc0 := 373) (pc' := 383) rfl (hb hby at_373) rfl (flt hc373_65).2.1 (by decide) (by decide) ?_
                        refine XS.iload X63.here hx rfl (hb hby at_383) rfl ?_
                        refine XS.sipush X63.here hx rfl (hb hby at_385) ?_
                        refine XS.sipush X63.here hx rfl (hb hby at_388) ?_
                        show Steps p.tables e below (T63.setTop (mkF m 391 #[.val (.int p1), .val (.int p2), .val (.int p3), .val (.int p4), .val (.int p5), .val (.int p6), .val (.int of), .val (.ref b), .val (.int lim), .val (.int av), .val (.int xx), .val (.int b1), .val (.int b2), .val (.int b3), .val (.int (4 : Int32)), .val (.int (144 : Int32)), .val (.int (191 : Int32)), .unset] [(.int (191 : Int32)), (.int (128 : Int32)), (.int b2)])) _
                        refine st67 _ ?_
                        show Steps p.tables e below (T67.setTop (mkF m 394 #[.val (.int p1), .val (.int p2), .val (.int p3), .val (.int p4), .val (.int p5), .val (.int p6), .val (.int of), .val (.ref b), .val (.int lim), .val (.int av), .val (.int xx), .val (.int b1), .val (.int b2), .val (.int b3), .val (.int (4 : Int32)), .val (.int (144 : Int32)), .val (.int (191 : Int32)), .unset] [(.int (1 : Int32))])) _
                        refine XS.ifYes X67.here hx rfl (pc0 := 394) (pc' := 404) rfl (hb hby at_394) rfl ((if0 _ _).trans (feq (by decide : ¬ ((1 : Int32) = (0 : Int32)))).2) (by decide) (by decide) ?_
                        refine XS.iload X67.here hx rfl (hb hby at_404) rfl ?_
                        refine XS.iconst X67.here hx rfl (hb hby at_406) ?_
                        show Steps p.tables e below (T67.setTop (mkF m 407 #[.val (.int p1), .val (.int p2), .val (.int p3), .val (.int p4), .val (.int p5), .val (.int p6), .val (.int of), .val (.ref b), .val (.int lim), .val (.int av), .val (.int xx), .val (.int b1), .val (.int b2), .val (.int b3), .val (.int (4 : Int32)), .val (.int (144 : Int32)), .val (.int (191 : Int32)), .unset] [(.int (3 : Int32)), (.int (4 : Int32))])) _
                        refine XS.icmpYes X67.here hx rfl (pc0 := 407) (pc' := 416) rfl (hb hby at_407) rfl (feq (by decide : ¬ ((4 : Int32) = (3 : Int32)))).2 (by decide) (by decide) ?_
                        refine XS.iload X67.here hx rfl (hb hby at_416) rfl ?_
                        refine XS.iconst X67.here hx rfl (hb hby at_418) ?_
                        exact k
                      by_cases hc419_69 : av < (3 : Int32)
                      · have i_hc419_69 : av.toInt < (3 : Int32).toInt := (Int32.lt_iff_toInt_lt).mp hc419_69
                        have pre70 : ∀ t, Steps p.tables e below (T67.setTop (mkF m 453 #[.val (.int p1), .val (.int p2), .val (.int p3), .val (.int p4), .val (.int p5), .val (.int p6), .val (.int of), .val (.ref b), .val (.int lim), .val (.int av), .val (.int xx), .val (.int b1), .val (.int b2), .val (.int b3), .val (.int (4 : Int32)), .val (.int (144 : Int32)), .val (.int (191 : Int32)), .val (.int (-2147483648 : Int32))] [])) t → Steps p.tables e below (T0.setTop (mkF m 146 #[.val (.int p1), .val (.int p2), .val (.int p3), .val (.int p4), .val (.int p5), .val (.int p6), .val (.int of), .val (.ref b), .val (.int lim), .val (.int av), .val (.int xx), .val (.int b1), .val (.int b2), .val (.int b3), .unset, .unset, .unset, .unset] [])) t := by
                          intro t k
                          refine pre68 t ?_
                          show Steps p.tables e below (T67.setTop (mkF m 419 #[.val (.int p1), .val (.int p2), .val (.int p3), .val (.int p4), .val (.int p5), .val (.int p6), .val (.int of), .val (.ref b), .val (.int lim), .val (.int av), .val (.int xx), .val (.int b1), .val (.int b2), .val (.int b3), .val (.int (4 : Int32)), .val (.int (144 : Int32)), .val (.int (191 : Int32)), .unset] [(.int (3 : Int32)), (.int av)])) _
                          refine XS.icmpNo X67.here hx rfl (hb hby at_419) rfl (tlt hc419_69).2.1 ?_
                          show Steps p.tables e below (T67.setTop (mkF m 422 #[.val (.int p1), .val (.int p2), .val (.int p3), .val (.int p4), .val (.int p5), .val (.int p6), .val (.int of), .val (.ref b), .val (.int lim), .val (.int av), .val (.int xx), .val (.int b1), .val (.int b2), .val (.int b3), .val (.int (4 : Int32)), .val (.int (144 : Int32)), .val (.int (191 : Int32)), .unset] [])) _
                          refine X67.ldcInt hx hown (mvT hZ (hw _ (List.mem_of_getElem? (i := 9) rfl))) (g := (mkF m 422 #[.val (.int p1), .val (.int p2), .val (.int p3), .val (.int p4), .val (.int p5), .val (.int p6), .val (.int of), .val (.ref b), .val (.int lim), .val (.int av), .val (.int xx), .val (.int b1), .val (.int b2), .val (.int b3), .val (.int (4 : Int32)), .val (.int (144 : Int32)), .val (.int (191 : Int32)), .unset] [])) rfl (hb hby at_422) _ ?_
                          refine XS.istore X67.here hx rfl (hb hby at_424) rfl (l' := #[.val (.int p1), .val (.int p2), .val (.int p3), .val (.int p4), .val (.int p5), .val (.int p6), .val (.int of), .val (.ref b), .val (.int lim), .val (.int av), .val (.int xx), .val (.int b1), .val (.int b2), .val (.int b3), .val (.int (4 : Int32)), .val (.int (144 : Int32)), .val (.int (191 : Int32)), .val (.int (-2147483648 : Int32))]) rfl ?_
                          refine XS.goto X67.here hx rfl (pc0 := 426) (pc' := 453) rfl (hb hby at_426) (by decide) (by decide) ?_
                          exact k
                        refine ⟨T67, _, (4 : Int32), (144 : Int32), (191 : Int32), X67, e67, N67, fun t k => pre70 t ?_⟩
                        have eE : own_E xx.toInt b1.toInt b2.toInt b3.toInt av.toInt = (-2147483648 : Int32) := (lf0_25 (xx.toInt) (b1.toInt) (b2.toInt) (b3.toInt) (av.toInt) r_xx r_b1 r_b2 r_b3 r_av i1 i_hc181_9 i21 i_hc220_34 i46 i_hc259_59 i_hc329_61 i63a i63b i_hc373_65 i67a i67b i_hc419_69)
                        rw [eE] at k
                        exact k
                      · have i_hc419_69 : ¬ (av.toInt < (3 : Int32).toInt) := fun q => hc419_69 ((Int32.lt_iff_toInt_lt).mpr q)
                        obtain ⟨_, _, ⟨T71, L71, k71, n71⟩, -, X71, ⟨Lc71, hQ71, l71, y71, z71⟩, st71⟩ := Jvm.LawKit.callS X67 hx (y := (⟨"com/example/kindgen/kindgen/runtime/Utf8CursorSequenceLengthPinLaw", "in", "(III)Z"⟩ : MethodName)) hown (mvT hZ (hw _ (List.mem_of_getElem? (i := 1) rfl))) (mvT hZ (hw _ (List.mem_of_getElem? (i := 2) rfl))) (mvT hZ (hw _ (List.mem_of_getElem? (i := 3) rfl))) (mvT hZ (hw _ (List.mem_of_getElem? (i := 4) rfl))) (by decide) (backOf (W := 0) (rm1 l Z a0 hw [] b3 (128 : Int32) (191 : Int32) h0 n0 Z0) hZ (hw _ (List.mem_of_getElem? (i := 4) rfl)) (hw _ (List.mem_of_getElem? (i := 3) rfl)) (by decide) (by decide)) (g := (mkF m 437 #[.val (.int p1), .val (.int p2), .val (.int p3), .val (.int p4), .val (.int p5), .val (.int p6), .val (.int of), .val (.ref b), .val (.int lim), .val (.int av), .val (.int xx), .val (.int b1), .val (.int b2), .val (.int b3), .val (.int (4 : Int32)), .val (.int (144 : Int32)), .val (.int (191 : Int32)), .unset] [(.int (191 : Int32)), (.int (128 : Int32)), (.int b3)])) rfl (by rw [hml]; rfl) (argsL := [(.int b3), (.int (128 : Int32)), (.int (191 : Int32))]) (rest := []) (lenOf pd_0 rfl) rfl (by show 2 * 0 + _ ≤ _; exact Nat.le_of_eq rfl) (hb hby at_437) (fun _ _ => ⟨rfl, e67, (by decide : 1 + 0 ≤ _), (by decide : 5 + 0 ≤ _)⟩)
                        dsimp only [Pt.U, Pt.locs, Pt.cells, Pt.slots] at X71 l71 y71 z71 st71 hQ71
                        subst l71 y71 z71
                        obtain ⟨rfl, N71q, e71⟩ := hQ71
                        have N71 := Fr.app N67 N71q
                        rcases own_in b3 (128 : Int32) (191 : Int32) with ⟨v71, i71a, i71b⟩ | ⟨v71, i71⟩
                        · rw [v71] at st71
                          have pre72 : ∀ t, Steps p.tables e below (T71.setTop (mkF m 453 #[.val (.int p1), .val (.int p2), .val (.int p3), .val (.int p4), .val (.int p5), .val (.int p6), .val (.int of), .val (.ref b), .val (.int lim), .val (.int av), .val (.int xx), .val (.int b1), .val (.int b2), .val (.int b3), .val (.int (4 : Int32)), .val (.int (144 : Int32)), .val (.int (191 : Int32)), .val (.int (4 : Int32))] [])) t → Steps p.tables e below (T0.setTop (mkF m 146 #[.val (.int p1), .val (.int p2), .val (.int p3), .val (.int p4), .val (.int p5), .val (.int p6), .val (.int of), .val (.ref b), .val (.int lim), .val (.int av), .val (.int xx), .val (.int b1), .val (.int b2), .val (.int b3), .unset, .unset, .unset, .unset] [])) t := by
                            intro t k
                            refine pre68 t ?_
                            show Steps p.tables e below (T67.setTop (mkF m 419 #[.val (.int p1), .val (.int p2), .val (.int p3), .val (.int p4), .val (.int p5), .val (.int p6), .val (.int of), .val (.ref b), .val (.int lim), .val (.int av), .val (.int xx), .val (.int b1), .val (.int b2), .val (.int b3), .val (.int (4 : Int32)), .val (.int (144 : Int32)), .val (.int (191 : Int32)), .unset] [(.int (3 : Int32)), (.int av)])) _
                            refine XS.icmpYes X67.here hx rfl (pc0 := 419) (pc' := 429) rfl (hb hby at_419) rfl (flt hc419_69).2.1 (by decide) (by decide) ?_
                            refine XS.iload X67.here hx rfl (hb hby at_429) rfl ?_
                            refine XS.sipush X67.here hx rfl (hb hby at_431) ?_
                            refine XS.sipush X67.here hx rfl (hb hby at_434) ?_
                            show Steps p.tables e below (T67.setTop (mkF m 437 #[.val (.int p1), .val (.int p2), .val (.int p3), .val (.int p4), .val (.int p5), .val (.int p6), .val (.int of), .val (.ref b), .val (.int lim), .val (.int av), .val (.int xx), .val (.int b1), .val (.int b2), .val (.int b3), .val (.int (4 : Int32)), .val (.int (144 : Int32)), .val (.int (191 : Int32)), .unset] [(.int (191 : Int32)), (.int (128 : Int32)), (.int b3)])) _
                            refine st71 _ ?_
                            show Steps p.tables e below (T71.setTop (mkF m 440 #[.val (.int p1), .val (.int p2), .val (.int p3), .val (.int p4), .val (.int p5), .val (.int p6), .val (.int of), .val (.ref b), .val (.int lim), .val (.int av), .val (.int xx), .val (.int b1), .val (.int b2), .val (.int b3), .val (.int (4 : Int32)), .val (.int (144 : Int32)), .val (.int (191 : Int32)), .unset] [(.int (1 : Int32))])) _
                            refine XS.ifYes X71.here hx rfl (pc0 := 440) (pc' := 450) rfl (hb hby at_440) rfl ((if0 _ _).trans (feq (by decide : ¬ ((1 : Int32) = (0 : Int32)))).2) (by decide) (by decide) ?_
                            refine XS.iconst X71.here hx rfl (hb hby at_450) ?_
                            refine XS.istore X71.here hx rfl (hb hby at_451) rfl (l' := #[.val (.int p1), .val (.int p2), .val (.int p3), .val (.int p4), .val (.int p5), .val (.int p6), .val (.int of), .val (.ref b), .val (.int lim), .val (.int av), .val (.int xx), .val (.int b1), .val (.int b2), .val (.int b3), .val (.int (4 : Int32)), .val (.int (144 : Int32)), .val (.int (191 : Int32)), .val (.int (4 : Int32))]) rfl ?_
                            exact k
                          refine ⟨T71, _, (4 : Int32), (144 : Int32), (191 : Int32), X71, e71, N71, fun t k => pre72 t ?_⟩
                          have eE : own_E xx.toInt b1.toInt b2.toInt b3.toInt av.toInt = (4 : Int32) := (lf0_26 (xx.toInt) (b1.toInt) (b2.toInt) (b3.toInt) (av.toInt) r_xx r_b1 r_b2 r_b3 r_av i1 i_hc181_9 i21 i_hc220_34 i46 i_hc259_59 i_hc329_61 i63a i63b i_hc373_65 i67a i67b i_hc419_69 i71a i71b)
                          rw [eE] at k
                          exact k
                        · rw [v71] at st71
                          have pre73 : ∀ t, Steps p.tables e below (T71.setTop (mkF m 453 #[.val (.int p1), .val (.int p2), .val (.int p3), .val (.int p4), .val (.int p5), .val (.int p6), .val (.int of), .val (.ref b), .val (.int lim), .val (.int av), .val (.int xx), .val (.int b1), .val (.int b2), .val (.int b3), .val (.int (4 : Int32)), .val (.int (144 : Int32)), .val (.int (191 : Int32)), .val (.int (-4 : Int32))] [])) t → Steps p.tables e below (T0.setTop (mkF m 146 #[.val (.int p1), .val (.int p2), .val (.int p3), .val (.int p4), .val (.int p5), .val (.int p6), .val (.int of), .val (.ref b), .val (.int lim), .val (.int av), .val (.int xx), .val (.int b1), .val (.int b2), .val (.int b3), .unset, .unset, .unset, .unset] [])) t := by
                            intro t k
                            refine pre68 t ?_
                            show Steps p.tables e below (T67.setTop (mkF m 419 #[.val (.int p1), .val (.int p2), .val (.int p3), .val (.int p4), .val (.int p5), .val (.int p6), .val (.int of), .val (.ref b), .val (.int lim), .val (.int av), .val (.int xx), .val (.int b1), .val (.int b2), .val (.int b3), .val (.int (4 : Int32)), .val (.int (144 : Int32)), .val (.int (191 : Int32)), .unset] [(.int (3 : Int32)), (.int av)])) _
                            refine XS.icmpYes X67.here hx rfl (pc0 := 419) (pc' := 429) rfl (hb hby at_419) rfl (flt hc419_69).2.1 (by decide) (by decide) ?_
                            refine XS.iload X67.here hx rfl (hb hby at_429) rfl ?_
                            refine XS.sipush X67.here hx rfl (hb hby at_431) ?_
                            refine XS.sipush X67.here hx rfl (hb hby at_434) ?_
                            show Steps p.tables e below (T67.setTop (mkF m 437 #[.val (.int p1), .val (.int p2), .val (.int p3), .val (.int p4), .val (.int p5), .val (.int p6), .val (.int of), .val (.ref b), .val (.int lim), .val (.int av), .val (.int xx), .val (.int b1), .val (.int b2), .val (.int b3), .val (.int (4 : Int32)), .val (.int (144 : Int32)), .val (.int (191 : Int32)), .unset] [(.int (191 : Int32)), (.int (128 : Int32)), (.int b3)])) _
                            refine st71 _ ?_
                            show Steps p.tables e below (T71.setTop (mkF m 440 #[.val (.int p1), .val (.int p2), .val (.int p3), .val (.int p4), .val (.int p5), .val (.int p6), .val (.int of), .val (.ref b), .val (.int lim), .val (.int av), .val (.int xx), .val (.int b1), .val (.int b2), .val (.int b3), .val (.int (4 : Int32)), .val (.int (144 : Int32)), .val (.int (191 : Int32)), .unset] [(.int (0 : Int32))])) _
                            refine XS.ifNo X71.here hx rfl (hb hby at_440) rfl ((if0 _ _).trans (teq (by decide : (0 : Int32) = (0 : Int32))).2) ?_
                            refine XS.bipush X71.here hx rfl (hb hby at_443) ?_
                            refine XS.istore X71.here hx rfl (hb hby at_445) rfl (l' := #[.val (.int p1), .val (.int p2), .val (.int p3), .val (.int p4), .val (.int p5), .val (.int p6), .val (.int of), .val (.ref b), .val (.int lim), .val (.int av), .val (.int xx), .val (.int b1), .val (.int b2), .val (.int b3), .val (.int (4 : Int32)), .val (.int (144 : Int32)), .val (.int (191 : Int32)), .val (.int (-4 : Int32))]) rfl ?_
                            refine XS.goto X71.here hx rfl (pc0 := 447) (pc' := 453) rfl (hb hby at_447) (by decide) (by decide) ?_
                            exact k
                          refine ⟨T71, _, (4 : Int32), (144 : Int32), (191 : Int32), X71, e71, N71, fun t k => pre73 t ?_⟩
                          have eE : own_E xx.toInt b1.toInt b2.toInt b3.toInt av.toInt = (-4 : Int32) := (lf0_27 (xx.toInt) (b1.toInt) (b2.toInt) (b3.toInt) (av.toInt) r_xx r_b1 r_b2 r_b3 r_av i1 i_hc181_9 i21 i_hc220_34 i46 i_hc259_59 i_hc329_61 i63a i63b i_hc373_65 i67a i67b i_hc419_69 i71)
                          rw [eE] at k
                          exact k
                    · rw [v67] at st67
                      have pre74 : ∀ t, Steps p.tables e below (T67.setTop (mkF m 453 #[.val (.int p1), .val (.int p2), .val (.int p3), .val (.int p4), .val (.int p5), .val (.int p6), .val (.int of), .val (.ref b), .val (.int lim), .val (.int av), .val (.int xx), .val (.int b1), .val (.int b2), .val (.int b3), .val (.int (4 : Int32)), .val (.int (144 : Int32)), .val (.int (191 : Int32)), .val (.int (-3 : Int32))] [])) t → Steps p.tables e below (T0.setTop (mkF m 146 #[.val (.int p1), .val (.int p2), .val (.int p3), .val (.int p4), .val (.int p5), .val (.int p6), .val (.int of), .val (.ref b), .val (.int lim), .val (.int av), .val (.int xx), .val (.int b1), .val (.int b2), .val (.int b3), .unset, .unset, .unset, .unset] [])) t := by
                        intro t k
                        refine pre64 t ?_
                        show Steps p.tables e below (T63.setTop (mkF m 373 #[.val (.int p1), .val (.int p2), .val (.int p3), .val (.int p4), .val (.int p5), .val (.int p6), .val (.int of), .val (.ref b), .val (.int lim), .val (.int av), .val (.int xx), .val (.int b1), .val (.int b2), .val (.int b3), .val (.int (4 : Int32)), .val (.int (144 : Int32)), .val (.int (191 : Int32)), .unset] [(.int (2 : Int32)), (.int av)])) _
                        refine XS.icmpYes X63.here hx rfl (pc0 := 373) (pc' := 383) rfl (hb hby at_373) rfl (flt hc373_65).2.1 (by decide) (by decide) ?_
                        refine XS.iload X63.here hx rfl (hb hby at_383) rfl ?_
                        refine XS.sipush X63.here hx rfl (hb hby at_385) ?_
                        refine XS.sipush X63.here hx rfl (hb hby at_388) ?_
                        show Steps p.tables e below (T63.setTop (mkF m 391 #[.val (.int p1), .val (.int p2), .val (.int p3), .val (.int p4), .val (.int p5), .val (.int p6), .val (.int of), .val (.ref b), .val (.int lim), .val (.int av), .val (.int xx), .val (.int b1), .val (.int b2), .val (.int b3), .val (.int (4 : Int32)), .val (.int (144 : Int32)), .val (.int (191 : Int32)), .unset] [(.int (191 : Int32)), (.int (128 : Int32)), (.int b2)])) _
                        refine st67 _ ?_
                        show Steps p.tables e below (T67.setTop (mkF m 394 #[.val (.int p1), .val (.int p2), .val (.int p3), .val (.int p4), .val (.int p5), .val (.int p6), .val (.int of), .val (.ref b), .val (.int lim), .val (.int av), .val (.int xx), .val (.int b1), .val (.int b2), .val (.int b3), .val (.int (4 : Int32)), .val (.int (144 : Int32)), .val (.int (191 : Int32)), .unset] [(.int (0 : Int32))])) _
                        refine XS.ifNo X67.here hx rfl (hb hby at_394) rfl ((if0 _ _).trans (teq (by decide : (0 : Int32) = (0 : Int32))).2) ?_
                        refine XS.bipush X67.here hx rfl (hb hby at_397) ?_
                        refine XS.istore X67.here hx rfl (hb hby at_399) rfl (l' := #[.val (.int p1), .val (.int p2), .val (.int p3), .val (.int p4), .val (.int p5), .val (.int p6), .val (.int of), .val (.ref b), .val (.int lim), .val (.int av), .val (.int xx), .val (.int b1), .val (.int b2), .val (.int b3), .val (.int (4 : Int32)), .val (.int (144 : Int32)), .val (.int (191 : Int32)), .val (.int (-3 : Int32))]) rfl ?_
                        refine XS.goto X67.here hx rfl (pc0 := 401) (pc' := 453) rfl (hb hby at_401) (by decide) (by decide) ?_
                        exact k
                      refine ⟨T67, _, (4 : Int32), (144 : Int32), (191 : Int32), X67, e67, N67, fun t k => pre74 t ?_⟩
                      have eE : own_E xx.toInt b1.toInt b2.toInt b3.toInt av.toInt = (-3 : Int32) := (lf0_28 (xx.toInt) (b1.toInt) (b2.toInt) (b3.toInt) (av.toInt) r_xx r_b1 r_b2 r_b3 r_av i1 i_hc181_9 i21 i_hc220_34 i46 i_hc259_59 i_hc329_61 i63a i63b i_hc373_65 i67)
                      rw [eE] at k
                      exact k
                · rw [v63] at st63
                  have pre75 : ∀ t, Steps p.tables e below (T63.setTop (mkF m 453 #[.val (.int p1), .val (.int p2), .val (.int p3), .val (.int p4), .val (.int p5), .val (.int p6), .val (.int of), .val (.ref b), .val (.int lim), .val (.int av), .val (.int xx), .val (.int b1), .val (.int b2), .val (.int b3), .val (.int (4 : Int32)), .val (.int (144 : Int32)), .val (.int (191 : Int32)), .val (.int (-2 : Int32))] [])) t → Steps p.tables e below (T0.setTop (mkF m 146 #[.val (.int p1), .val (.int p2), .val (.int p3), .val (.int p4), .val (.int p5), .val (.int p6), .val (.int of), .val (.ref b), .val (.int lim), .val (.int av), .val (.int xx), .val (.int b1), .val (.int b2), .val (.int b3), .unset, .unset, .unset, .unset] [])) t := by
                    intro t k
                    refine pre60 t ?_
                    show Steps p.tables e below (T46.setTop (mkF m 329 #[.val (.int p1), .val (.int p2), .val (.int p3), .val (.int p4), .val (.int p5), .val (.int p6), .val (.int of), .val (.ref b), .val (.int lim), .val (.int av), .val (.int xx), .val (.int b1), .val (.int b2), .val (.int b3), .val (.int (4 : Int32)), .val (.int (144 : Int32)), .val (.int (191 : Int32)), .unset] [(.int (1 : Int32)), (.int av)])) _
                    refine XS.icmpYes X46.here hx rfl (pc0 := 329) (pc' := 339) rfl (hb hby at_329) rfl (flt hc329_61).2.1 (by decide) (by decide) ?_
                    refine XS.iload X46.here hx rfl (hb hby at_339) rfl ?_
                    refine XS.iload X46.here hx rfl (hb hby at_341) rfl ?_
                    refine XS.iload X46.here hx rfl (hb hby at_343) rfl ?_
                    show Steps p.tables e below (T46.setTop (mkF m 345 #[.val (.int p1), .val (.int p2), .val (.int p3), .val (.int p4), .val (.int p5), .val (.int p6), .val (.int of), .val (.ref b), .val (.int lim), .val (.int av), .val (.int xx), .val (.int b1), .val (.int b2), .val (.int b3), .val (.int (4 : Int32)), .val (.int (144 : Int32)), .val (.int (191 : Int32)), .unset] [(.int (191 : Int32)), (.int (144 : Int32)), (.int b1)])) _
                    refine st63 _ ?_
                    show Steps p.tables e below (T63.setTop (mkF m 348 #[.val (.int p1), .val (.int p2), .val (.int p3), .val (.int p4), .val (.int p5), .val (.int p6), .val (.int of), .val (.ref b), .val (.int lim), .val (.int av), .val (.int xx), .val (.int b1), .val (.int b2), .val (.int b3), .val (.int (4 : Int32)), .val (.int (144 : Int32)), .val (.int (191 : Int32)), .unset] [(.int (0 : Int32))])) _
                    refine XS.ifNo X63.here hx rfl (hb hby at_348) rfl ((if0 _ _).trans (teq (by decide : (0 : Int32) = (0 : Int32))).2) ?_
                    refine XS.bipush X63.here hx rfl (hb hby at_351) ?_
                    refine XS.istore X63.here hx rfl (hb hby at_353) rfl (l' := #[.val (.int p1), .val (.int p2), .val (.int p3), .val (.int p4), .val (.int p5), .val (.int p6), .val (.int of), .val (.ref b), .val (.int lim), .val (.int av), .val (.int xx), .val (.int b1), .val (.int b2), .val (.int b3), .val (.int (4 : Int32)), .val (.int (144 : Int32)), .val (.int (191 : Int32)), .val (.int (-2 : Int32))]) rfl ?_
                    refine XS.goto X63.here hx rfl (pc0 := 355) (pc' := 453) rfl (hb hby at_355) (by decide) (by decide) ?_
                    exact k
                  refine ⟨T63, _, (4 : Int32), (144 : Int32), (191 : Int32), X63, e63, N63, fun t k => pre75 t ?_⟩
                  have eE : own_E xx.toInt b1.toInt b2.toInt b3.toInt av.toInt = (-2 : Int32) := (lf0_29 (xx.toInt) (b1.toInt) (b2.toInt) (b3.toInt) (av.toInt) r_xx r_b1 r_b2 r_b3 r_av i1 i_hc181_9 i21 i_hc220_34 i46 i_hc259_59 i_hc329_61 i63)
                  rw [eE] at k
                  exact k
            · have i_hc259_59 : ¬ (xx.toInt = (240 : Int32).toInt) := fun q => hc259_59 ((Int32.toInt_inj.symm).mpr q)
              obtain ⟨_, _, ⟨T76, L76, k76, n76⟩, -, X76, ⟨Lc76, hQ76, l76, y76, z76⟩, st76⟩ := Jvm.LawKit.callS X46 hx (y := (⟨"com/example/kindgen/kindgen/runtime/Utf8CursorSequenceLengthPinLaw", "in", "(III)Z"⟩ : MethodName)) hown (mvT hZ (hw _ (List.mem_of_getElem? (i := 1) rfl))) (mvT hZ (hw _ (List.mem_of_getElem? (i := 2) rfl))) (mvT hZ (hw _ (List.mem_of_getElem? (i := 3) rfl))) (mvT hZ (hw _ (List.mem_of_getElem? (i := 4) rfl))) (by decide) (backOf (W := 0) (rm1 l Z a0 hw [] xx (241 : Int32) (243 : Int32) h0 n0 Z0) hZ (hw _ (List.mem_of_getElem? (i := 4) rfl)) (hw _ (List.mem_of_getElem? (i := 3) rfl)) (by decide) (by decide)) (g := (mkF m 281 #[.val (.int p1), .val (.int p2), .val (.int p3), .val (.int p4), .val (.int p5), .val (.int p6), .val (.int of), .val (.ref b), .val (.int lim), .val (.int av), .val (.int xx), .val (.int b1), .val (.int b2), .val (.int b3), .unset, .val (.int (128 : Int32)), .val (.int (191 : Int32)), .unset] [(.int (243 : Int32)), (.int (241 : Int32)), (.int xx)])) rfl (by rw [hml]; rfl) (argsL := [(.int xx), (.int (241 : Int32)), (.int (243 : Int32))]) (rest := []) (lenOf pd_0 rfl) rfl (by show 2 * 0 + _ ≤ _; exact Nat.le_of_eq rfl) (hb hby at_281) (fun _ _ => ⟨rfl, e46, (by decide : 1 + 0 ≤ _), (by decide : 5 + 0 ≤ _)⟩)
              dsimp only [Pt.U, Pt.locs, Pt.cells, Pt.slots] at X76 l76 y76 z76 st76 hQ76
              subst l76 y76 z76
              obtain ⟨rfl, N76q, e76⟩ := hQ76
              have N76 := Fr.app N46 N76q
              rcases own_in xx (241 : Int32) (243 : Int32) with ⟨v76, i76a, i76b⟩ | ⟨v76, i76⟩
              · rw [v76] at st76
                have pre77 : ∀ t, Steps p.tables e below (T76.setTop (mkF m 329 #[.val (.int p1), .val (.int p2), .val (.int p3), .val (.int p4), .val (.int p5), .val (.int p6), .val (.int of), .val (.ref b), .val (.int lim), .val (.int av), .val (.int xx), .val (.int b1), .val (.int b2), .val (.int b3), .val (.int (4 : Int32)), .val (.int (128 : Int32)), .val (.int (191 : Int32)), .unset] [(.int (1 : Int32)), (.int av)])) t → Steps p.tables e below (T0.setTop (mkF m 146 #[.val (.int p1), .val (.int p2), .val (.int p3), .val (.int p4), .val (.int p5), .val (.int p6), .val (.int of), .val (.ref b), .val (.int lim), .val (.int av), .val (.int xx), .val (.int b1), .val (.int b2), .val (.int b3), .unset, .unset, .unset, .unset] [])) t := by
                  intro t k
                  refine pre58 t ?_
                  show Steps p.tables e below (T46.setTop (mkF m 259 #[.val (.int p1), .val (.int p2), .val (.int p3), .val (.int p4), .val (.int p5), .val (.int p6), .val (.int of), .val (.ref b), .val (.int lim), .val (.int av), .val (.int xx), .val (.int b1), .val (.int b2), .val (.int b3), .unset, .val (.int (128 : Int32)), .val (.int (191 : Int32)), .unset] [(.int (240 : Int32)), (.int xx)])) _
                  refine XS.icmpYes X46.here hx rfl (pc0 := 259) (pc' := 273) rfl (hb hby at_259) rfl (feq hc259_59).2 (by decide) (by decide) ?_
                  refine XS.iload X46.here hx rfl (hb hby at_273) rfl ?_
                  refine XS.sipush X46.here hx rfl (hb hby at_275) ?_
                  refine XS.sipush X46.here hx rfl (hb hby at_278) ?_
                  show Steps p.tables e below (T46.setTop (mkF m 281 #[.val (.int p1), .val (.int p2), .val (.int p3), .val (.int p4), .val (.int p5), .val (.int p6), .val (.int of), .val (.ref b), .val (.int lim), .val (.int av), .val (.int xx), .val (.int b1), .val (.int b2), .val (.int b3), .unset, .val (.int (128 : Int32)), .val (.int (191 : Int32)), .unset] [(.int (243 : Int32)), (.int (241 : Int32)), (.int xx)])) _
                  refine st76 _ ?_
                  show Steps p.tables e below (T76.setTop (mkF m 284 #[.val (.int p1), .val (.int p2), .val (.int p3), .val (.int p4), .val (.int p5), .val (.int p6), .val (.int of), .val (.ref b), .val (.int lim), .val (.int av), .val (.int xx), .val (.int b1), .val (.int b2), .val (.int b3), .unset, .val (.int (128 : Int32)), .val (.int (191 : Int32)), .unset] [(.int (1 : Int32))])) _
                  refine XS.ifNo X76.here hx rfl (hb hby at_284) rfl ((if0 _ _).trans (feq (by decide : ¬ ((1 : Int32) = (0 : Int32)))).1) ?_
                  refine XS.iconst X76.here hx rfl (hb hby at_287) ?_
                  refine XS.istore X76.here hx rfl (hb hby at_288) rfl (l' := #[.val (.int p1), .val (.int p2), .val (.int p3), .val (.int p4), .val (.int p5), .val (.int p6), .val (.int of), .val (.ref b), .val (.int lim), .val (.int av), .val (.int xx), .val (.int b1), .val (.int b2), .val (.int b3), .val (.int (4 : Int32)), .val (.int (128 : Int32)), .val (.int (191 : Int32)), .unset]) rfl ?_
                  refine XS.goto X76.here hx rfl (pc0 := 290) (pc' := 315) rfl (hb hby at_290) (by decide) (by decide) ?_
                  show Steps p.tables e below (T76.setTop (mkF m 315 #[.val (.int p1), .val (.int p2), .val (.int p3), .val (.int p4), .val (.int p5), .val (.int p6), .val (.int of), .val (.ref b), .val (.int lim), .val (.int av), .val (.int xx), .val (.int b1), .val (.int b2), .val (.int b3), .val (.int (4 : Int32)), .val (.int (128 : Int32)), .val (.int (191 : Int32)), .unset] [])) _
                  refine XS.iload X76.here hx rfl (hb hby at_315) rfl ?_
                  show Steps p.tables e below (T76.setTop (mkF m 317 #[.val (.int p1), .val (.int p2), .val (.int p3), .val (.int p4), .val (.int p5), .val (.int p6), .val (.int of), .val (.ref b), .val (.int lim), .val (.int av), .val (.int xx), .val (.int b1), .val (.int b2), .val (.int b3), .val (.int (4 : Int32)), .val (.int (128 : Int32)), .val (.int (191 : Int32)), .unset] [(.int (4 : Int32))])) _
                  refine XS.ifYes X76.here hx rfl (pc0 := 317) (pc' := 326) rfl (hb hby at_317) rfl ((if0 _ _).trans (flt (by decide : ¬ ((4 : Int32) < (0 : Int32)))).2.1) (by decide) (by decide) ?_
                  refine XS.iload X76.here hx rfl (hb hby at_326) rfl ?_
                  refine XS.iconst X76.here hx rfl (hb hby at_328) ?_
                  exact k
                by_cases hc329_78 : av < (1 : Int32)
                · have i_hc329_78 : av.toInt < (1 : Int32).toInt := (Int32.lt_iff_toInt_lt).mp hc329_78
                  have pre79 : ∀ t, Steps p.tables e below (T76.setTop (mkF m 453 #[.val (.int p1), .val (.int p2), .val (.int p3), .val (.int p4), .val (.int p5), .val (.int p6), .val (.int of), .val (.ref b), .val (.int lim), .val (.int av), .val (.int xx), .val (.int b1), .val (.int b2), .val (.int b3), .val (.int (4 : Int32)), .val (.int (128 : Int32)), .val (.int (191 : Int32)), .val (.int (-2147483648 : Int32))] [])) t → Steps p.tables e below (T0.setTop (mkF m 146 #[.val (.int p1), .val (.int p2), .val (.int p3), .val (.int p4), .val (.int p5), .val (.int p6), .val (.int of), .val (.ref b), .val (.int lim), .val (.int av), .val (.int xx), .val (.int b1), .val (.int b2), .val (.int b3), .unset, .unset, .unset, .unset] [])) t := by
                    intro t k
                    refine pre77 t ?_
                    show Steps p.tables e below (T76.setTop (mkF m 329 #[.val (.int p1), .val (.int p2), .val (.int p3), .val (.int p4), .val (.int p5), .val (.int p6), .val (.int of), .val (.ref b), .val (.int lim), .val (.int av), .val (.int xx), .val (.int b1), .val (.int b2), .val (.int b3), .val (.int (4 : Int32)), .val (.int (128 : Int32)), .val (.int (191 : Int32)), .unset] [(.int (1 : Int32)), (.int av)])) _
                    refine XS.icmpNo X76.here hx rfl (hb hby at_329) rfl (tlt hc329_78).2.1 ?_
                    show Steps p.tables e below (T76.setTop (mkF m 332 #[.val (.int p1), .val (.int p2), .val (.int p3), .val (.int p4), .val (.int p5), .val (.int p6), .val (.int of), .val (.ref b), .val (.int lim), .val (.int av), .val (.int xx), .val (.int b1), .val (.int b2), .val (.int b3), .val (.int (4 : Int32)), .val (.int (128 : Int32)), .val (.int (191 : Int32)), .unset] [])) _
                    refine X76.ldcInt hx hown (mvT hZ (hw _ (List.mem_of_getElem? (i := 9) rfl))) (g := (mkF m 332 #[.val (.int p1), .val (.int p2), .val (.int p3), .val (.int p4), .val (.int p5), .val (.int p6), .val (.int of), .val (.ref b), .val (.int lim), .val (.int av), .val (.int xx), .val (.int b1), .val (.int b2), .val (.int b3), .val (.int (4 : Int32)), .val (.int (128 : Int32)), .val (.int (191 : Int32)), .unset] [])) rfl (hb hby at_332) _ ?_
                    refine XS.istore X76.here hx rfl (hb hby at_334) rfl (l' := #[.val (.int p1), .val (.int p2), .val (.int p3), .val (.int p4), .val (.int p5), .val (.int p6), .val (.int of), .val (.ref b), .val (.int lim), .val (.int av), .val (.int xx), .val (.int b1), .val (.int b2), .val (.int b3), .val (.int (4 : Int32)), .val (.int (128 : Int32)), .val (.int (191 : Int32)), .val (.int (-2147483648 : Int32))]) rfl ?_
                    refine XS.goto X76.here hx rfl (pc0 := 336) (pc' := 453) rfl (hb hby at_336) (by decide) (by decide) ?_
                    exact k
                  refine ⟨T76, _, (4 : Int32), (128 : Int32), (191 : Int32), X76, e76, N76, fun t k => pre79 t ?_⟩
                  have eE : own_E xx.toInt b1.toInt b2.toInt b3.toInt av.toInt = (-2147483648 : Int32) := (lf0_30 (xx.toInt) (b1.toInt) (b2.toInt) (b3.toInt) (av.toInt) r_xx r_b1 r_b2 r_b3 r_av i1 i_hc181_9 i21 i_hc220_34 i46 i_hc259_59 i76a i76b i_hc329_78)
                  rw [eE] at k
                  exact k
                · have i_hc329_78 : ¬ (av.toInt < (1 : Int32).toInt) := fun q => hc329_78 ((Int32.lt_iff_toInt_lt).mpr q)
                  obtain ⟨_, _, ⟨T80, L80, k80, n80⟩, -, X80, ⟨Lc80, hQ80, l80, y80, z80⟩, st80⟩ := Jvm.LawKit.callS X76 hx (y := (⟨"com/example/kindgen/kindgen/runtime/Utf8CursorSequenceLengthPinLaw", "in", "(III)Z"⟩ : MethodName)) hown (mvT hZ (hw _ (List.mem_of_getElem? (i := 1) rfl))) (mvT hZ (hw _ (List.mem_of_getElem? (i := 2) rfl))) (mvT hZ (hw _ (List.mem_of_getElem? (i := 3) rfl))) (mvT hZ (hw _ (List.mem_of_getElem? (i := 4) rfl))) (by decide) (backOf (W := 0) (rm1 l Z a0 hw [] b1 (128 : Int32) (191 : Int32) h0 n0 Z0) hZ (hw _ (List.mem_of_getElem? (i := 4) rfl)) (hw _ (List.mem_of_getElem? (i := 3) rfl)) (by decide) (by decide)) (g := (mkF m 345 #[.val (.int p1), .val (.int p2), .val (.int p3), .val (.int p4), .val (.int p5), .val (.int p6), .val (.int of), .val (.ref b), .val (.int lim), .val (.int av), .val (.int xx), .val (.int b1), .val (.int b2), .val (.int b3), .val (.int (4 : Int32)), .val (.int (128 : Int32)), .val (.int (191 : Int32)), .unset] [(.int (191 : Int32)), (.int (128 : Int32)), (.int b1)])) rfl (by rw [hml]; rfl) (argsL := [(.int b1), (.int (128 : Int32)), (.int (191 : Int32))]) (rest := []) (lenOf pd_0 rfl) rfl (by show 2 * 0 + _ ≤ _; exact Nat.le_of_eq rfl) (hb hby at_345) (fun _ _ => ⟨rfl, e76, (by decide : 1 + 0 ≤ _), (by decide : 5 + 0 ≤ _)⟩)
                  dsimp only [Pt.U, Pt.locs, Pt.cells, Pt.slots] at X80 l80 y80 z80 st80 hQ80
                  subst l80 y80 z80
                  obtain ⟨rfl, N80q, e80⟩ := hQ80
                  have N80 := Fr.app N76 N80q
                  rcases own_in b1 (128 : Int32) (191 : Int32) with ⟨v80, i80a, i80b⟩ | ⟨v80, i80⟩
                  · rw [v80] at st80
                    have pre81 : ∀ t, Steps p.tables e below (T80.setTop (mkF m 373 #[.val (.int p1), .val (.int p2), .val (.int p3), .val (.int p4), .val (.int p5), .val (.int p6), .val (.int of), .val (.ref b), .val (.int lim), .val (.int av), .val (.int xx), .val (.int b1), .val (.int b2), .val (.int b3), .val (.int (4 : Int32)), .val (.int (128 : Int32)), .val (.int (191 : Int32)), .unset] [(.int (2 : Int32)), (.int av)])) t → Steps p.tables e below (T0.setTop (mkF m 146 #[.val (.int p1), .val (.int p2), .val (.int p3), .val (.int p4), .val (.int p5), .val (.int p6), .val (.int of), .val (.ref b), .val (.int lim), .val (.int av), .val (.int xx), .val (.int b1), .val (.int b2), .val (.int b3), .unset, .unset, .unset, .unset] [])) t := by
                      intro t k
                      refine pre77 t ?_
                      show Steps p.tables e below (T76.setTop (mkF m 329 #[.val (.int p1), .val (.int p2), .val (.int p3), .val (.int p4), .val (.int p5), .val (.int p6), .val (.int of), .val (.ref b), .val (.int lim), .val (.int av), .val (.int xx), .val (.int b1), .val (.int b2), .val (.int b3), .val (.int (4 : Int32)), .val (.int (128 : Int32)), .val (.int (191 : Int32)), .unset] [(.int (1 : Int32)), (.int av)])) _
                      refine XS.icmpYes X76.here hx rfl (pc0 := 329) (pc' := 339) rfl (hb hby at_329) rfl (flt hc329_78).2.1 (by decide) (by decide) ?_
                      refine XS.iload X76.here hx rfl (hb hby at_339) rfl ?_
                      refine XS.iload X76.here hx rfl (hb hby at_341) rfl ?_
                      refine XS.iload X76.here hx rfl (hb hby at_343) rfl ?_
                      show Steps p.tables e below (T76.setTop (mkF m 345 #[.val (.int p1), .val (.int p2), .val (.int p3), .val (.int p4), .val (.int p5), .val (.int p6), .val (.int of), .val (.ref b), .val (.int lim), .val (.int av), .val (.int xx), .val (.int b1), .val (.int b2), .val (.int b3), .val (.int (4 : Int32)), .val (.int (128 : Int32)), .val (.int (191 : Int32)), .unset] [(.int (191 : Int32)), (.int (128 : Int32)), (.int b1)])) _
                      refine st80 _ ?_
                      show Steps p.tables e below (T80.setTop (mkF m 348 #[.val (.int p1), .val (.int p2), .val (.int p3), .val (.int p4), .val (.int p5), .val (.int p6), .val (.int of), .val (.ref b), .val (.int lim), .val (.int av), .val (.int xx), .val (.int b1), .val (.int b2), .val (.int b3), .val (.int (4 : Int32)), .val (.int (128 : Int32)), .val (.int (191 : Int32)), .unset] [(.int (1 : Int32))])) _
                      refine XS.ifYes X80.here hx rfl (pc0 := 348) (pc' := 358) rfl (hb hby at_348) rfl ((if0 _ _).trans (feq (by decide : ¬ ((1 : Int32) = (0 : Int32)))).2) (by decide) (by decide) ?_
                      refine XS.iload X80.here hx rfl (hb hby at_358) rfl ?_
                      refine XS.iconst X80.here hx rfl (hb hby at_360) ?_
                      show Steps p.tables e below (T80.setTop (mkF m 361 #[.val (.int p1), .val (.int p2), .val (.int p3), .val (.int p4), .val (.int p5), .val (.int p6), .val (.int of), .val (.ref b), .val (.int lim), .val (.int av), .val (.int xx), .val (.int b1), .val (.int b2), .val (.int b3), .val (.int (4 : Int32)), .val (.int (128 : Int32)), .val (.int (191 : Int32)), .unset] [(.int (2 : Int32)), (.int (4 : Int32))])) _
                      refine XS.icmpYes X80.here hx rfl (pc0 := 361) (pc' := 370) rfl (hb hby at_361) rfl (feq (by decide : ¬ ((4 : Int32) = (2 : Int32)))).2 (by decide) (by decide) ?_
                      refine XS.iload X80.here hx rfl (hb hby at_370) rfl ?_
                      refine XS.iconst X80.here hx rfl (hb hby at_372) ?_
                      exact k
                    by_cases hc373_82 : av < (2 : Int32)
                    · have i_hc373_82 : av.toInt < (2 : Int32).toInt := (Int32.lt_iff_toInt_lt).mp hc373_82
                      have pre83 : ∀ t, Steps p.tables e below (T80.setTop (mkF m 453 #[.val (.int p1), .val (.int p2), .val (.int p3), .val (.int p4), .val (.int p5), .val (.int p6), .val (.int of), .val (.ref b), .val (.int lim), .val (.int av), .val (.int xx), .val (.int b1), .val (.int b2), .val (.int b3), .val (.int (4 : Int32)), .val (.int (128 : Int32)), .val (.int (191 : Int32)), .val (.int (-2147483648 : Int32))] [])) t → Steps p.tables e below (T0.setTop (mkF m 146 #[.val (.int p1), .val (.int p2), .val (.int p3), .val (.int p4), .val (.int p5), .val (.int p6), .val (.int of), .val (.ref b), .val (.int lim), .val (.int av), .val (.int xx), .val (.int b1), .val (.int b2), .val (.int b3), .unset, .unset, .unset, .unset] [])) t := by
                        intro t k
                        refine pre81 t ?_
                        show Steps p.tables e below (T80.setTop (mkF m 373 #[.val (.int p1), .val (.int p2), .val (.int p3), .val (.int p4), .val (.int p5), .val (.int p6), .val (.int of), .val (.ref b), .val (.int lim), .val (.int av), .val (.int xx), .val (.int b1), .val (.int b2), .val (.int b3), .val (.int (4 : Int32)), .val (.int (128 : Int32)), .val (.int (191 : Int32)), .unset] [(.int (2 : Int32)), (.int av)])) _
                        refine XS.icmpNo X80.here hx rfl (hb hby at_373) rfl (tlt hc373_82).2.1 ?_
                        show Steps p.tables e below (T80.setTop (mkF m 376 #[.val (.int p1), .val (.int p2), .val (.int p3), .val (.int p4), .val (.int p5), .val (.int p6), .val (.int of), .val (.ref b), .val (.int lim), .val (.int av), .val (.int xx), .val (.int b1), .val (.int b2), .val (.int b3), .val (.int (4 : Int32)), .val (.int (128 : Int32)), .val (.int (191 : Int32)), .unset] [])) _
                        refine X80.ldcInt hx hown (mvT hZ (hw _ (List.mem_of_getElem? (i := 9) rfl))) (g := (mkF m 376 #[.val (.int p1), .val (.int p2), .val (.int p3), .val (.int p4), .val (.int p5), .val (.int p6), .val (.int of), .val (.ref b), .val (.int lim), .val (.int av), .val (.int xx), .val (.int b1), .val (.int b2), .val (.int b3), .val (.int (4 : Int32)), .val (.int (128 : Int32)), .val (.int (191 : Int32)), .unset] [])) rfl (hb hby at_376) _ ?_
                        refine XS.istore X80.here hx rfl (hb hby at_378) rfl (l' := #[.val (.int p1), .val (.int p2), .val (.int p3), .val (.int p4), .val (.int p5), .val (.int p6), .val (.int of), .val (.ref b), .val (.int lim), .val (.int av), .val (.int xx), .val (.int b1), .val (.int b2), .val (.int b3), .val (.int (4 : Int32)), .val (.int (128 : Int32)), .val (.int (191 : Int32)), .val (.int (-2147483648 : Int32))]) rfl ?_
                        refine XS.goto X80.here hx rfl (pc0 := 380) (pc' := 453) rfl (hb hby at_380) (by decide) (by decide) ?_
                        exact k
                      refine ⟨T80, _, (4 : Int32), (128 : Int32), (191 : Int32), X80, e80, N80, fun t k => pre83 t ?_⟩
                      have eE : own_E xx.toInt b1.toInt b2.toInt b3.toInt av.toInt = (-2147483648 : Int32) := (lf0_31 (xx.toInt) (b1.toInt) (b2.toInt) (b3.toInt) (av.toInt) r_xx r_b1 r_b2 r_b3 r_av i1 i_hc181_9 i21 i_hc220_34 i46 i_hc259_59 i76a i76b i_hc329_78 i80a i80b i_hc373_82)
                      rw [eE] at k
                      exact k
                    · have i_hc373_82 : ¬ (av.toInt < (2 : Int32).toInt) := fun q => hc373_82 ((Int32.lt_iff_toInt_lt).mpr q)
                      obtain ⟨_, _, ⟨T84, L84, k84, n84⟩, -, X84, ⟨Lc84, hQ84, l84, y84, z84⟩, st84⟩ := Jvm.LawKit.callS X80 hx (y := (⟨"com/example/kindgen/kindgen/runtime/Utf8CursorSequenceLengthPinLaw", "in", "(III)Z"⟩ : MethodName)) hown (mvT hZ (hw _ (List.mem_of_getElem? (i := 1) rfl))) (mvT hZ (hw _ (List.mem_of_getElem? (i := 2) rfl))) (mvT hZ (hw _ (List.mem_of_getElem? (i := 3) rfl))) (mvT hZ (hw _ (List.mem_of_getElem? (i := 4) rfl))) (by decide) (backOf (W := 0) (rm1 l Z a0 hw [] b2 (128 : Int32) (191 : Int32) h0 n0 Z0) hZ (hw _ (List.mem_of_getElem? (i := 4) rfl)) (hw _ (List.mem_of_getElem? (i := 3) rfl)) (by decide) (by decide)) (g := (mkF m 391 #[.val (.int p1), .val (.int p2), .val (.int p3), .val (.int p4), .val (.int p5), .val (.int p6), .val (.int of), .val (.ref b), .val (.int lim), .val (.int av), .val (.int xx), .val (.int b1), .val (.int b2), .val (.int b3), .val (.int (4 : Int32)), .val (.int (128 : Int32)), .val (.int (191 : Int32)), .unset] [(.int (191 : Int32)), (.int (128 : Int32)), (.int b2)])) rfl (by rw [hml]; rfl) (argsL := [(.int b2), (.int (128 : Int32)), (.int (191 : Int32))]) (rest := []) (lenOf pd_0 rfl) rfl (by show 2 * 0 + _ ≤ _; exact Nat.le_of_eq rfl) (hb hby at_391) (fun _ _ => ⟨rfl, e80, (by decide : 1 + 0 ≤ _), (by decide : 5 + 0 ≤ _)⟩)
                      dsimp only [Pt.U, Pt.locs, Pt.cells, Pt.slots] at X84 l84 y84 z84 st84 hQ84
                      subst l84 y84 z84
                      obtain ⟨rfl, N84q, e84⟩ := hQ84
                      have N84 := Fr.app N80 N84q
                      rcases own_in b2 (128 : Int32) (191 : Int32) with ⟨v84, i84a, i84b⟩ | ⟨v84, i84⟩
                      · rw [v84] at st84
                        have pre85 : ∀ t, Steps p.tables e below (T84.setTop (mkF m 419 #[.val (.int p1), .val (.int p2), .val (.int p3), .val (.int p4), .val (.int p5), .val (.int p6), .val (.int of), .val (.ref b), .val (.int lim), .val (.int av), .val (.int xx), .val (.int b1), .val (.int b2), .val (.int b3), .val (.int (4 : Int32)), .val (.int (128 : Int32)), .val (.int (191 : Int32)), .unset] [(.int (3 : Int32)), (.int av)])) t → Steps p.tables e below (T0.setTop (mkF m 146 #[.val (.int p1), .val (.int p2), .val (.int p3), .val (.int p4), .val (.int p5), .val (.int p6), .val (.int of), .val (.ref b), .val (.int lim), .val (.int av), .val (.int xx), .val (.int b1), .val (.int b2), .val (.int b3), .unset, .unset, .unset, .unset] [])) t := by
                          intro t k
                          refine pre81 t ?_
                          show Steps p.tables e below (T80.setTop (mkF m 373 #[.val (.int p1), .val (.int p2), .val (.int p3), .val (.int p4), .val (.int p5), .val (.int p6), .val (.int of), .val (.ref b), .val (.int lim), .val (.int av), .val (.int xx), .val (.int b1), .val (.int b2), .val (.int b3), .val (.int (4 : Int32)), .val (.int (128 : Int32)), .val (.int (191 : Int32)), .unset] [(.int (2 : Int32)), (.int av)])) _
                          refine XS.icmpYes X80.here hx rfl (pc0 := 373) (pc' := 383) rfl (hb hby at_373) rfl (flt hc373_82).2.1 (by decide) (by decide) ?_
                          refine XS.iload X80.here hx rfl (hb hby at_383) rfl ?_
                          refine XS.sipush X80.here hx rfl (hb hby at_385) ?_
                          refine XS.sipush X80.here hx rfl (hb hby at_388) ?_
                          show Steps p.tables e below (T80.setTop (mkF m 391 #[.val (.int p1), .val (.int p2), .val (.int p3), .val (.int p4), .val (.int p5), .val (.int p6), .val (.int of), .val (.ref b), .val (.int lim), .val (.int av), .val (.int xx), .val (.int b1), .val (.int b2), .val (.int b3), .val (.int (4 : Int32)), .val (.int (128 : Int32)), .val (.int (191 : Int32)), .unset] [(.int (191 : Int32)), (.int (128 : Int32)), (.int b2)])) _
                          refine st84 _ ?_
                          show Steps p.tables e below (T84.setTop (mkF m 394 #[.val (.int p1), .val (.int p2), .val (.int p3), .val (.int p4), .val (.int p5), .val (.int p6), .val (.int of), .val (.ref b), .val (.int lim), .val (.int av), .val (.int xx), .val (.int b1), .val (.int b2), .val (.int b3), .val (.int (4 : Int32)), .val (.int (128 : Int32)), .val (.int (191 : Int32)), .unset] [(.int (1 : Int32))])) _
                          refine XS.ifYes X84.here hx rfl (pc0 := 394) (pc' := 404) rfl (hb hby at_394) rfl ((if0 _ _).trans (feq (by decide : ¬ ((1 : Int32) = (0 : Int32)))).2) (by decide) (by decide) ?_
                          refine XS.iload X84.here hx rfl (hb hby at_404) rfl ?_
                          refine XS.iconst X84.here hx rfl (hb hby at_406) ?_
                          show Steps p.tables e below (T84.setTop (mkF m 407 #[.val (.int p1), .val (.int p2), .val (.int p3), .val (.int p4), .val (.int p5), .val (.int p6), .val (.int of), .val (.ref b), .val (.int lim), .val (.int av), .val (.int xx), .val (.int b1), .val (.int b2), .val (.int b3), .val (.int (4 : Int32)), .val (.int (128 : Int32)), .val (.int (191 : Int32)), .unset] [(.int (3 : Int32)), (.int (4 : Int32))])) _
                          refine XS.icmpYes X84.here hx rfl (pc0 := 407) (pc' := 416) rfl (hb hby at_407) rfl (feq (by decide : ¬ ((4 : Int32) = (3 : Int32)))).2 (by decide) (by decide) ?_
                          refine XS.iload X84.here hx rfl (hb hby at_416) rfl ?_
                          refine XS.iconst X84.here hx rfl (hb hby at_418) ?_
                          exact k
                        by_cases hc419_86 : av < (3 : Int32)
                        · have i_hc419_86 : av.toInt < (3 : Int32).toInt := (Int32.lt_iff_toInt_lt).mp hc419_86
                          have pre87 : ∀ t, Steps p.tables e below (T84.setTop (mkF m 453 #[.val (.int p1), .val (.int p2), .val (.int p3), .val (.int p4), .val (.int p5), .val (.int p6), .val (.int of), .val (.ref b), .val (.int lim), .val (.int av), .val (.int xx), .val (.int b1), .val (.int b2), .val (.int b3), .val (.int (4 : Int32)), .val (.int (128 : Int32)), .val (.int (191 : Int32)), .val (.int (-2147483648 : Int32))] [])) t → Steps p.tables e below (T0.setTop (mkF m 146 #[.val (.int p1), .val (.int p2), .val (.int p3), .val (.int p4), .val (.int p5), .val (.int p6), .val (.int of), .val (.ref b), .val (.int lim), .val (.int av), .val (.int xx), .val (.int b1), .val (.int b2), .val (.int b3), .unset, .unset, .unset, .unset] [])) t := by
                            intro t k
                            refine pre85 t ?_
                            show Steps p.tables e below (T84.setTop (mkF m 419 #[.val (.int p1), .val (.int p2), .val (.int p3), .val (.int p4), .val (.int p5), .val (.int p6), .val (.int of), .val (.ref b), .val (.int lim), .val (.int av), .val (.int xx), .val (.int b1), .val (.int b2), .val (.int b3), .val (.int (4 : Int32)), .val (.int (128 : Int32)), .val (.int (191 : Int32)), .unset] [(.int (3 : Int32)), (.int av)])) _
                            refine XS.icmpNo X84.here hx rfl (hb hby at_419) rfl (tlt hc419_86).2.1 ?_
                            show Steps p.tables e below (T84.setTop (mkF m 422 #[.val (.int p1), .val (.int p2), .val (.int p3), .val (.int p4), .val (.int p5), .val (.int p6), .val (.int of), .val (.ref b), .val (.int lim), .val (.int av), .val (.int xx), .val (.int b1), .val (.int b2), .val (.int b3), .val (.int (4 : Int32)), .val (.int (128 : Int32)), .val (.int (191 : Int32)), .unset] [])) _
                            refine X84.ldcInt hx hown (mvT hZ (hw _ (List.mem_of_getElem? (i := 9) rfl))) (g := (mkF m 422 #[.val (.int p1), .val (.int p2), .val (.int p3), .val (.int p4), .val (.int p5), .val (.int p6), .val (.int of), .val (.ref b), .val (.int lim), .val (.int av), .val (.int xx), .val (.int b1), .val (.int b2), .val (.int b3), .val (.int (4 : Int32)), .val (.int (128 : Int32)), .val (.int (191 : Int32)), .unset] [])) rfl (hb hby at_422) _ ?_
                            refine XS.istore X84.here hx rfl (hb hby at_424) rfl (l' := #[.val (.int p1), .val (.int p2), .val (.int p3), .val (.int p4), .val (.int p5), .val (.int p6), .val (.int of), .val (.ref b), .val (.int lim), .val (.int av), .val (.int xx), .val (.int b1), .val (.int b2), .val (.int b3), .val (.int (4 : Int32)), .val (.int (128 : Int32)), .val (.int (191 : Int32)), .val (.int (-2147483648 : Int32))]) rfl ?_
                            refine XS.goto X84.here hx rfl (pc0 := 426) (pc' := 453) rfl (hb hby at_426) (by decide) (by decide) ?_
                            exact k
                          refine ⟨T84, _, (4 : Int32), (128 : Int32), (191 : Int32), X84, e84, N84, fun t k => pre87 t ?_⟩
                          have eE : own_E xx.toInt b1.toInt b2.toInt b3.toInt av.toInt = (-2147483648 : Int32) := (lf0_32 (xx.toInt) (b1.toInt) (b2.toInt) (b3.toInt) (av.toInt) r_xx r_b1 r_b2 r_b3 r_av i1 i_hc181_9 i21 i_hc220_34 i46 i_hc259_59 i76a i76b i_hc329_78 i80a i80b i_hc373_82 i84a i84b i_hc419_86)
                          rw [eE] at k
                          exact k
                        · have i_hc419_86 : ¬ (av.toInt < (3 : Int32).toInt) := fun q => hc419_86 ((Int32.lt_iff_toInt_lt).mpr q)
                          obtain ⟨_, _, ⟨T88, L88, k88, n88⟩, -, X88, ⟨Lc88, hQ88, l88, y88, z88⟩, st88⟩ := Jvm.LawKit.callS X84 hx (y := (⟨"com/example/kindgen/kindgen/runtime/Utf8CursorSequenceLengthPinLaw", "in", "(III)Z"⟩ : MethodName)) hown (mvT hZ (hw _ (List.mem_of_getElem? (i := 1) rfl))) (mvT hZ (hw _ (List.mem_of_getElem? (i := 2) rfl))) (mvT hZ (hw _ (List.mem_of_getElem? (i := 3) rfl))) (mvT hZ (hw _ (List.mem_of_getElem? (i := 4) rfl))) (by decide) (backOf (W := 0) (rm1 l Z a0 hw [] b3 (128 : Int32) (191 : Int32) h0 n0 Z0) hZ (hw _ (List.mem_of_getElem? (i := 4) rfl)) (hw _ (List.mem_of_getElem? (i := 3) rfl)) (by decide) (by decide)) (g := (mkF m 437 #[.val (.int p1), .val (.int p2), .val (.int p3), .val (.int p4), .val (.int p5), .val (.int p6), .val (.int of), .val (.ref b), .val (.int lim), .val (.int av), .val (.int xx), .val (.int b1), .val (.int b2), .val (.int b3), .val (.int (4 : Int32)), .val (.int (128 : Int32)), .val (.int (191 : Int32)), .unset] [(.int (191 : Int32)), (.int (128 : Int32)), (.int b3)])) rfl (by rw [hml]; rfl) (argsL := [(.int b3), (.int (128 : Int32)), (.int (191 : Int32))]) (rest := []) (lenOf pd_0 rfl) rfl (by show 2 * 0 + _ ≤ _; exact Nat.le_of_eq rfl) (hb hby at_437) (fun _ _ => ⟨rfl, e84, (by decide : 1 + 0 ≤ _), (by decide : 5 + 0 ≤ _)⟩)
                          dsimp only [Pt.U, Pt.locs, Pt.cells, Pt.slots] at X88 l88 y88 z88 st88 hQ88
                          subst l88 y88 z88
                          obtain ⟨rfl, N88q, e88⟩ := hQ88
                          have N88 := Fr.app N84 N88q
                          rcases own_in b3 (128 : Int32) (191 : Int32) with ⟨v88, i88a, i88b⟩ | ⟨v88, i88⟩
                          · rw [v88] at st88
                            have pre89 : ∀ t, Steps p.tables e below (T88.setTop (mkF m 453 #[.val (.int p1), .val (.int p2), .val (.int p3), .val (.int p4), .val (.int p5), .val (.int p6), .val (.int of), .val (.ref b), .val (.int lim), .val (.int av), .val (.int xx), .val (.int b1), .val (.int b2), .val (.int b3), .val (.int (4 : Int32)), .val (.int (128 : Int32)), .val (.int (191 : Int32)), .val (.int (4 : Int32))] [])) t → Steps p.tables e below (T0.setTop (mkF m 146 #[.val (.int p1), .val (.int p2), .val (.int p3), .val (.int p4), .val (.int p5), .val (.int p6), .val (.int of), .val (.ref b), .val (.int lim), .val (.int av), .val (.int xx), .val (.int b1), .val (.int b2), .val (.int b3), .unset, .unset, .unset, .unset] [])) t := by
                              intro t k
                              refine pre85 t ?_
                              show Steps p.tables e below (T84.setTop (mkF m 419 #[.val (.int p1), .val (.int p2), .val (.int p3), .val (.int p4), .val (.int p5), .val (.int p6), .val (.int of), .val (.ref b), .val (.int lim), .val (.int av), .val (.int xx), .val (.int b1), .val (.int b2), .val (.int b3), .val (.int (4 : Int32)), .val (.int (128 : Int32)), .val (.int (191 : Int32)), .unset] [(.int (3 : Int32)), (.int av)])) _
                              refine XS.icmpYes X84.here hx rfl (pc0 := 419) (pc' := 429) rfl (hb hby at_419) rfl (flt hc419_86).2.1 (by decide) (by decide) ?_
                              refine XS.iload X84.here hx rfl (hb hby at_429) rfl ?_
                              refine XS.sipush X84.here hx rfl (hb hby at_431) ?_
                              refine XS.sipush X84.here hx rfl (hb hby at_434) ?_
                              show Steps p.tables e below (T84.setTop (mkF m 437 #[.val (.int p1), .val (.int p2), .val (.int p3), .val (.int p4), .val (.int p5), .val (.int p6), .val (.int of), .val (.ref b), .val (.int lim), .val (.int av), .val (.int xx), .val (.int b1), .val (.int b2), .val (.int b3), .val (.int (4 : Int32)), .val (.int (128 : Int32)), .val (.int (191 : Int32)), .unset] [(.int (191 : Int32)), (.int (128 : Int32)), (.int b3)])) _
                              refine st88 _ ?_
                              show Steps p.tables e below (T88.setTop (mkF m 440 #[.val (.int p1), .val (.int p2), .val (.int p3), .val (.int p4), .val (.int p5), .val (.int p6), .val (.int of), .val (.ref b), .val (.int lim), .val (.int av), .val (.int xx), .val (.int b1), .val (.int b2), .val (.int b3), .val (.int (4 : Int32)), .val (.int (128 : Int32)), .val (.int (191 : Int32)), .unset] [(.int (1 : Int32))])) _
                              refine XS.ifYes X88.here hx rfl (pc0 := 440) (pc' := 450) rfl (hb hby at_440) rfl ((if0 _ _).trans (feq (by decide : ¬ ((1 : Int32) = (0 : Int32)))).2) (by decide) (by decide) ?_
                              refine XS.iconst X88.here hx rfl (hb hby at_450) ?_
                              refine XS.istore X88.here hx rfl (hb hby at_451) rfl (l' := #[.val (.int p1), .val (.int p2), .val (.int p3), .val (.int p4), .val (.int p5), .val (.int p6), .val (.int of), .val (.ref b), .val (.int lim), .val (.int av), .val (.int xx), .val (.int b1), .val (.int b2), .val (.int b3), .val (.int (4 : Int32)), .val (.int (128 : Int32)), .val (.int (191 : Int32)), .val (.int (4 : Int32))]) rfl ?_
                              exact k
                            refine ⟨T88, _, (4 : Int32), (128 : Int32), (191 : Int32), X88, e88, N88, fun t k => pre89 t ?_⟩
                            have eE : own_E xx.toInt b1.toInt b2.toInt b3.toInt av.toInt = (4 : Int32) := (lf0_33 (xx.toInt) (b1.toInt) (b2.toInt) (b3.toInt) (av.toInt) r_xx r_b1 r_b2 r_b3 r_av i1 i_hc181_9 i21 i_hc220_34 i46 i_hc259_59 i76a i76b i_hc329_78 i80a i80b i_hc373_82 i84a i84b i_hc419_86 i88a i88b)
                            rw [eE] at k
                            exact k
                          · rw [v88] at st88
                            have pre90 : ∀ t, Steps p.tables e below (T88.setTop (mkF m 453 #[.val (.int p1), .val (.int p2), .val (.int p3), .val (.int p4), .val (.int p5), .val (.int p6), .val (.int of), .val (.ref b), .val (.int lim), .val (.int av), .val (.int xx), .val (.int b1), .val (.int b2), .val (.int b3), .val (.int (4 : Int32)), .val (.int (128 : Int32)), .val (.int (191 : Int32)), .val (.int (-4 : Int32))] [])) t → Steps p.tables e below (T0.setTop (mkF m 146 #[.val (.int p1), .val (.int p2), .val (.int p3), .val (.int p4), .val (.int p5), .val (.int p6), .val (.int of), .val (.ref b), .val (.int lim), .val (.int av), .val (.int xx), .val (.int b1), .val (.int b2), .val (.int b3), .unset, .unset, .unset, .unset] [])) t := by
                              intro t k
                              refine pre85 t ?_
                              show Steps p.tables e below (T84.setTop (mkF m 419 #[.val (.int p1), .val (.int p2), .val (.int p3), .val (.int p4), .val (.int p5), .val (.int p6), .val (.int of), .val (.ref b), .val (.int lim), .val (.int av), .val (.int xx), .val (.int b1), .val (.int b2), .val (.int b3), .val (.int (4 : Int32)), .val (.int (128 : Int32)), .val (.int (191 : Int32)), .unset] [(.int (3 : Int32)), (.int av)])) _
                              refine XS.icmpYes X84.here hx rfl (pc0 := 419) (pc' := 429) rfl (hb hby at_419) rfl (flt hc419_86).2.1 (by decide) (by decide) ?_
                              refine XS.iload X84.here hx rfl (hb hby at_429) rfl ?_
                              refine XS.sipush X84.here hx rfl (hb hby at_431) ?_
                              refine XS.sipush X84.here hx rfl (hb hby at_434) ?_
                              show Steps p.tables e below (T84.setTop (mkF m 437 #[.val (.int p1), .val (.int p2), .val (.int p3), .val (.int p4), .val (.int p5), .val (.int p6), .val (.int of), .val (.ref b), .val (.int lim), .val (.int av), .val (.int xx), .val (.int b1), .val (.int b2), .val (.int b3), .val (.int (4 : Int32)), .val (.int (128 : Int32)), .val (.int (191 : Int32)), .unset] [(.int (191 : Int32)), (.int (128 : Int32)), (.int b3)])) _
                              refine st88 _ ?_
                              show Steps p.tables e below (T88.setTop (mkF m 440 #[.val (.int p1), .val (.int p2), .val (.int p3), .val (.int p4), .val (.int p5), .val (.int p6), .val (.int of), .val (.ref b), .val (.int lim), .val (.int av), .val (.int xx), .val (.int b1), .val (.int b2), .val (.int b3), .val (.int (4 : Int32)), .val (.int (128 : Int32)), .val (.int (191 : Int32)), .unset] [(.int (0 : Int32))])) _
                              refine XS.ifNo X88.here hx rfl (hb hby at_440) rfl ((if0 _ _).trans (teq (by decide : (0 : Int32) = (0 : Int32))).2) ?_
                              refine XS.bipush X88.here hx rfl (hb hby at_443) ?_
                              refine XS.istore X88.here hx rfl (hb hby at_445) rfl (l' := #[.val (.int p1), .val (.int p2), .val (.int p3), .val (.int p4), .val (.int p5), .val (.int p6), .val (.int of), .val (.ref b), .val (.int lim), .val (.int av), .val (.int xx), .val (.int b1), .val (.int b2), .val (.int b3), .val (.int (4 : Int32)), .val (.int (128 : Int32)), .val (.int (191 : Int32)), .val (.int (-4 : Int32))]) rfl ?_
                              refine XS.goto X88.here hx rfl (pc0 := 447) (pc' := 453) rfl (hb hby at_447) (by decide) (by decide) ?_
                              exact k
                            refine ⟨T88, _, (4 : Int32), (128 : Int32), (191 : Int32), X88, e88, N88, fun t k => pre90 t ?_⟩
                            have eE : own_E xx.toInt b1.toInt b2.toInt b3.toInt av.toInt = (-4 : Int32) := (lf0_34 (xx.toInt) (b1.toInt) (b2.toInt) (b3.toInt) (av.toInt) r_xx r_b1 r_b2 r_b3 r_av i1 i_hc181_9 i21 i_hc220_34 i46 i_hc259_59 i76a i76b i_hc329_78 i80a i80b i_hc373_82 i84a i84b i_hc419_86 i88)
                            rw [eE] at k
                            exact k
                      · rw [v84] at st84
                        have pre91 : ∀ t, Steps p.tables e below (T84.setTop (mkF m 453 #[.val (.int p1), .val (.int p2), .val (.int p3), .val (.int p4), .val (.int p5), .val (.int p6), .val (.int of), .val (.ref b), .val (.int lim), .val (.int av), .val (.int xx), .val (.int b1), .val (.int b2), .val (.int b3), .val (.int (4 : Int32)), .val (.int (128 : Int32)), .val (.int (191 : Int32)), .val (.int (-3 : Int32))] [])) t → Steps p.tables e below (T0.setTop (mkF m 146 #[.val (.int p1), .val (.int p2), .val (.int p3), .val (.int p4), .val (.int p5), .val (.int p6), .val (.int of), .val (.ref b), .val (.int lim), .val (.int av), .val (.int xx), .val (.int b1), .val (.int b2), .val (.int b3), .unset, .unset, .unset, .unset] [])) t := by
                          intro t k
                          refine pre81 t ?_
                          show Steps p.tables e below (T80.setTop (mkF m 373 #[.val (.int p1), .val (.int p2), .val (.int p3), .val (.int p4), .val (.int p5), .val (.int p6), .val (.int of), .val (.ref b), .val (.int lim), .val (.int av), .val (.int xx), .val (.int b1), .val (.int b2), .val (.int b3), .val (.int (4 : Int32)), .val (.int (128 : Int32)), .val (.int (191 : Int32)), .unset] [(.int (2 : Int32)), (.int av)])) _
                          refine XS.icmpYes X80.here hx rfl (pc0 := 373) (pc' := 383) rfl (hb hby at_373) rfl (flt hc373_82).2.1 (by decide) (by decide) ?_
                          refine XS.iload X80.here hx rfl (hb hby at_383) rfl ?_
                          refine XS.sipush X80.here hx rfl (hb hby at_385) ?_
                          refine XS.sipush X80.here hx rfl (hb hby at_388) ?_
                          show Steps p.tables e below (T80.setTop (mkF m 391 #[.val (.int p1), .val (.int p2), .val (.int p3), .val (.int p4), .val (.int p5), .val (.int p6), .val (.int of), .val (.ref b), .val (.int lim), .val (.int av), .val (.int xx), .val (.int b1), .val (.int b2), .val (.int b3), .val (.int (4 : Int32)), .val (.int (128 : Int32)), .val (.int (191 : Int32)), .unset] [(.int (191 : Int32)), (.int (128 : Int32)), (.int b2)])) _
                          refine st84 _ ?_
                          show Steps p.tables e below (T84.setTop (mkF m 394 #[.val (.int p1), .val (.int p2), .val (.int p3), .val (.int p4), .val (.int p5), .val (.int p6), .val (.int of), .val (.ref b), .val (.int lim), .val (.int av), .val (.int xx), .val (.int b1), .val (.int b2), .val (.int b3), .val (.int (4 : Int32)), .val (.int (128 : Int32)), .val (.int (191 : Int32)), .unset] [(.int (0 : Int32))])) _
                          refine XS.ifNo X84.here hx rfl (hb hby at_394) rfl ((if0 _ _).trans (teq (by decide : (0 : Int32) = (0 : Int32))).2) ?_
                          refine XS.bipush X84.here hx rfl (hb hby at_397) ?_
                          refine XS.istore X84.here hx rfl (hb hby at_399) rfl (l' := #[.val (.int p1), .val (.int p2), .val (.int p3), .val (.int p4), .val (.int p5), .val (.int p6), .val (.int of), .val (.ref b), .val (.int lim), .val (.int av), .val (.int xx), .val (.int b1), .val (.int b2), .val (.int b3), .val (.int (4 : Int32)), .val (.int (128 : Int32)), .val (.int (191 : Int32)), .val (.int (-3 : Int32))]) rfl ?_
                          refine XS.goto X84.here hx rfl (pc0 := 401) (pc' := 453) rfl (hb hby at_401) (by decide) (by decide) ?_
                          exact k
                        refine ⟨T84, _, (4 : Int32), (128 : Int32), (191 : Int32), X84, e84, N84, fun t k => pre91 t ?_⟩
                        have eE : own_E xx.toInt b1.toInt b2.toInt b3.toInt av.toInt = (-3 : Int32) := (lf0_35 (xx.toInt) (b1.toInt) (b2.toInt) (b3.toInt) (av.toInt) r_xx r_b1 r_b2 r_b3 r_av i1 i_hc181_9 i21 i_hc220_34 i46 i_hc259_59 i76a i76b i_hc329_78 i80a i80b i_hc373_82 i84)
                        rw [eE] at k
                        exact k
                  · rw [v80] at st80
                    have pre92 : ∀ t, Steps p.tables e below (T80.setTop (mkF m 453 #[.val (.int p1), .val (.int p2), .val (.int p3), .val (.int p4), .val (.int p5), .val (.int p6), .val (.int of), .val (.ref b), .val (.int lim), .val (.int av), .val (.int xx), .val (.int b1), .val (.int b2), .val (.int b3), .val (.int (4 : Int32)), .val (.int (128 : Int32)), .val (.int (191 : Int32)), .val (.int (-2 : Int32))] [])) t → Steps p.tables e below (T0.setTop (mkF m 146 #[.val (.int p1), .val (.int p2), .val (.int p3), .val (.int p4), .val (.int p5), .val (.int p6), .val (.int of), .val (.ref b), .val (.int lim), .val (.int av), .val (.int xx), .val (.int b1), .val (.int b2), .val (.int b3), .unset, .unset, .unset, .unset] [])) t := by
                      intro t k
                      refine pre77 t ?_
                      show Steps p.tables e below (T76.setTop (mkF m 329 #[.val (.int p1), .val (.int p2), .val (.int p3), .val (.int p4), .val (.int p5), .val (.int p6), .val (.int of), .val (.ref b), .val (.int lim), .val (.int av), .val (.int xx), .val (.int b1), .val (.int b2), .val (.int b3), .val (.int (4 : Int32)), .val (.int (128 : Int32)), .val (.int (191 : Int32)), .unset] [(.int (1 : Int32)), (.int av)])) _
                      refine XS.icmpYes X76.here hx rfl (pc0 := 329) (pc' := 339) rfl (hb hby at_329) rfl (flt hc329_78).2.1 (by decide) (by decide) ?_
                      refine XS.iload X76.here hx rfl (hb hby at_339) rfl ?_
                      refine XS.iload X76.here hx rfl (hb hby at_341) rfl ?_
                      refine XS.iload X76.here hx rfl (hb hby at_343) rfl ?_
                      show Steps p.tables e below (T76.setTop (mkF m 345 #[.val (.int p1), .val (.int p2), .val (.int p3), .val (.int p4), .val (.int p5), .val (.int p6), .val (.int of), .val (.ref b), .val (.int lim), .val (.int av), .val (.int xx), .val (.int b1), .val (.int b2), .val (.int b3), .val (.int (4 : Int32)), .val (.int (128 : Int32)), .val (.int (191 : Int32)), .unset] [(.int (191 : Int32)), (.int (128 : Int32)), (.int b1)])) _
                      refine st80 _ ?_
                      show Steps p.tables e below (T80.setTop (mkF m 348 #[.val (.int p1), .val (.int p2), .val (.int p3), .val (.int p4), .val (.int p5), .val (.int p6), .val (.int of), .val (.ref b), .val (.int lim), .val (.int av), .val (.int xx), .val (.int b1), .val (.int b2), .val (.int b3), .val (.int (4 : Int32)), .val (.int (128 : Int32)), .val (.int (191 : Int32)), .unset] [(.int (0 : Int32))])) _
                      refine XS.ifNo X80.here hx rfl (hb hby at_348) rfl ((if0 _ _).trans (teq (by decide : (0 : Int32) = (0 : Int32))).2) ?_
                      refine XS.bipush X80.here hx rfl (hb hby at_351) ?_
                      refine XS.istore X80.here hx rfl (hb hby at_353) rfl (l' := #[.val (.int p1), .val (.int p2), .val (.int p3), .val (.int p4), .val (.int p5), .val (.int p6), .val (.int of), .val (.ref b), .val (.int lim), .val (.int av), .val (.int xx), .val (.int b1), .val (.int b2), .val (.int b3), .val (.int (4 : Int32)), .val (.int (128 : Int32)), .val (.int (191 : Int32)), .val (.int (-2 : Int32))]) rfl ?_
                      refine XS.goto X80.here hx rfl (pc0 := 355) (pc' := 453) rfl (hb hby at_355) (by decide) (by decide) ?_
                      exact k
                    refine ⟨T80, _, (4 : Int32), (128 : Int32), (191 : Int32), X80, e80, N80, fun t k => pre92 t ?_⟩
                    have eE : own_E xx.toInt b1.toInt b2.toInt b3.toInt av.toInt = (-2 : Int32) := (lf0_36 (xx.toInt) (b1.toInt) (b2.toInt) (b3.toInt) (av.toInt) r_xx r_b1 r_b2 r_b3 r_av i1 i_hc181_9 i21 i_hc220_34 i46 i_hc259_59 i76a i76b i_hc329_78 i80)
                    rw [eE] at k
                    exact k
              · rw [v76] at st76
                have pre93 : ∀ t, Steps p.tables e below (T76.setTop (mkF m 298 #[.val (.int p1), .val (.int p2), .val (.int p3), .val (.int p4), .val (.int p5), .val (.int p6), .val (.int of), .val (.ref b), .val (.int lim), .val (.int av), .val (.int xx), .val (.int b1), .val (.int b2), .val (.int b3), .unset, .val (.int (128 : Int32)), .val (.int (191 : Int32)), .unset] [(.int (244 : Int32)), (.int xx)])) t → Steps p.tables e below (T0.setTop (mkF m 146 #[.val (.int p1), .val (.int p2), .val (.int p3), .val (.int p4), .val (.int p5), .val (.int p6), .val (.int of), .val (.ref b), .val (.int lim), .val (.int av), .val (.int xx), .val (.int b1), .val (.int b2), .val (.int b3), .unset, .unset, .unset, .unset] [])) t := by
                  intro t k
                  refine pre58 t ?_
                  show Steps p.tables e below (T46.setTop (mkF m 259 #[.val (.int p1), .val (.int p2), .val (.int p3), .val (.int p4), .val (.int p5), .val (.int p6), .val (.int of), .val (.ref b), .val (.int lim), .val (.int av), .val (.int xx), .val (.int b1), .val (.int b2), .val (.int b3), .unset, .val (.int (128 : Int32)), .val (.int (191 : Int32)), .unset] [(.int (240 : Int32)), (.int xx)])) _
                  refine XS.icmpYes X46.here hx rfl (pc0 := 259) (pc' := 273) rfl (hb hby at_259) rfl (feq hc259_59).2 (by decide) (by decide) ?_
                  refine XS.iload X46.here hx rfl (hb hby at_273) rfl ?_
                  refine XS.sipush X46.here hx rfl (hb hby at_275) ?_
                  refine XS.sipush X46.here hx rfl (hb hby at_278) ?_
                  show Steps p.tables e below (T46.setTop (mkF m 281 #[.val (.int p1), .val (.int p2), .val (.int p3), .val (.int p4), .val (.int p5), .val (.int p6), .val (.int of), .val (.ref b), .val (.int lim), .val (.int av), .val (.int xx), .val (.int b1), .val (.int b2), .val (.int b3), .unset, .val (.int (128 : Int32)), .val (.int (191 : Int32)), .unset] [(.int (243 : Int32)), (.int (241 : Int32)), (.int xx)])) _
                  refine st76 _ ?_
                  show Steps p.tables e below (T76.setTop (mkF m 284 #[.val (.int p1), .val (.int p2), .val (.int p3), .val (.int p4), .val (.int p5), .val (.int p6), .val (.int of), .val (.ref b), .val (.int lim), .val (.int av), .val (.int xx), .val (.int b1), .val (.int b2), .val (.int b3), .unset, .val (.int (128 : Int32)), .val (.int (191 : Int32)), .unset] [(.int (0 : Int32))])) _
                  refine XS.ifYes X76.here hx rfl (pc0 := 284) (pc' := 293) rfl (hb hby at_284) rfl ((if0 _ _).trans (teq (by decide : (0 : Int32) = (0 : Int32))).1) (by decide) (by decide) ?_
                  refine XS.iload X76.here hx rfl (hb hby at_293) rfl ?_
                  refine XS.sipush X76.here hx rfl (hb hby at_295) ?_
                  exact k
                by_cases hc298_94 : xx = (244 : Int32)
                · have i_hc298_94 : xx.toInt = (244 : Int32).toInt := (Int32.toInt_inj.symm).mp hc298_94
                  have pre95 : ∀ t, Steps p.tables e below (T76.setTop (mkF m 329 #[.val (.int p1), .val (.int p2), .val (.int p3), .val (.int p4), .val (.int p5), .val (.int p6), .val (.int of), .val (.ref b), .val (.int lim), .val (.int av), .val (.int xx), .val (.int b1), .val (.int b2), .val (.int b3), .val (.int (4 : Int32)), .val (.int (128 : Int32)), .val (.int (143 : Int32)), .unset] [(.int (1 : Int32)), (.int av)])) t → Steps p.tables e below (T0.setTop (mkF m 146 #[.val (.int p1), .val (.int p2), .val (.int p3), .val (.int p4), .val (.int p5), .val (.int p6), .val (.int of), .val (.ref b), .val (.int lim), .val (.int av), .val (.int xx), .val (.int b1), .val (.int b2), .val (.int b3), .unset, .unset, .unset, .unset] [])) t := by
                    intro t k
                    refine pre93 t ?_
                    show Steps p.tables e below (T76.setTop (mkF m 298 #[.val (.int p1), .val (.int p2), .val (.int p3), .val (.int p4), .val (.int p5), .val (.int p6), .val (.int of), .val (.ref b), .val (.int lim), .val (.int av), .val (.int xx), .val (.int b1), .val (.int b2), .val (.int b3), .unset, .val (.int (128 : Int32)), .val (.int (191 : Int32)), .unset] [(.int (244 : Int32)), (.int xx)])) _
                    refine XS.icmpNo X76.here hx rfl (hb hby at_298) rfl (teq hc298_94).2 ?_
                    refine XS.iconst X76.here hx rfl (hb hby at_301) ?_
                    refine XS.istore X76.here hx rfl (hb hby at_302) rfl (l' := #[.val (.int p1), .val (.int p2), .val (.int p3), .val (.int p4), .val (.int p5), .val (.int p6), .val (.int of), .val (.ref b), .val (.int lim), .val (.int av), .val (.int xx), .val (.int b1), .val (.int b2), .val (.int b3), .val (.int (4 : Int32)), .val (.int (128 : Int32)), .val (.int (191 : Int32)), .unset]) rfl ?_
                    refine XS.sipush X76.here hx rfl (hb hby at_304) ?_
                    show Steps p.tables e below (T76.setTop (mkF m 307 #[.val (.int p1), .val (.int p2), .val (.int p3), .val (.int p4), .val (.int p5), .val (.int p6), .val (.int of), .val (.ref b), .val (.int lim), .val (.int av), .val (.int xx), .val (.int b1), .val (.int b2), .val (.int b3), .val (.int (4 : Int32)), .val (.int (128 : Int32)), .val (.int (191 : Int32)), .unset] [(.int (143 : Int32))])) _
                    refine XS.istore X76.here hx rfl (hb hby at_307) rfl (l' := #[.val (.int p1), .val (.int p2), .val (.int p3), .val (.int p4), .val (.int p5), .val (.int p6), .val (.int of), .val (.ref b), .val (.int lim), .val (.int av), .val (.int xx), .val (.int b1), .val (.int b2), .val (.int b3), .val (.int (4 : Int32)), .val (.int (128 : Int32)), .val (.int (143 : Int32)), .unset]) rfl ?_
                    refine XS.goto X76.here hx rfl (pc0 := 309) (pc' := 315) rfl (hb hby at_309) (by decide) (by decide) ?_
                    refine XS.iload X76.here hx rfl (hb hby at_315) rfl ?_
                    show Steps p.tables e below (T76.setTop (mkF m 317 #[.val (.int p1), .val (.int p2), .val (.int p3), .val (.int p4), .val (.int p5), .val (.int p6), .val (.int of), .val (.ref b), .val (.int lim), .val (.int av), .val (.int xx), .val (.int b1), .val (.int b2), .val (.int b3), .val (.int (4 : Int32)), .val (.int (128 : Int32)), .val (.int (143 : Int32)), .unset] [(.int (4 : Int32))])) _
                    refine XS.ifYes X76.here hx rfl (pc0 := 317) (pc' := 326) rfl (hb hby at_317) rfl ((if0 _ _).trans (flt (by decide : ¬ ((4 : Int32) < (0 : Int32)))).2.1) (by decide) (by decide) ?_
                    refine XS.iload X76.here hx rfl (hb hby at_326) rfl ?_
                    refine XS.iconst X76.here hx rfl (hb hby at_328) ?_
                    exact k
                  by_cases hc329_96 : av < (1 : Int32)
                  · have i_hc329_96 : av.toInt < (1 : Int32).toInt := (Int32.lt_iff_toInt_lt).mp hc329_96
                    have pre97 : ∀ t, Steps p.tables e below (T76.setTop (mkF m 453 #[.val (.int p1), .val (.int p2), .val (.int p3), .val (.int p4), .val (.int p5), .val (.int p6), .val (.int of), .val (.ref b), .val (.int lim), .val (.int av), .val (.int xx), .val (.int b1), .val (.int b2), .val (.int b3), .val (.int (4 : Int32)), .val (.int (128 : Int32)), .val (.int (143 : Int32)), .val (.int (-2147483648 : Int32))] [])) t → Steps p.tables e below (T0.setTop (mkF m 146 #[.val (.int p1), .val (.int p2), .val (.int p3), .val (.int p4), .val (.int p5), .val (.int p6), .val (.int of), .val (.ref b), .val (.int lim), .val (.int av), .val (.int xx), .val (.int b1), .val (.int b2), .val (.int b3), .unset, .unset, .unset, .unset] [])) t := by
                      intro t k
                      refine pre95 t ?_
                      show Steps p.tables e below (T76.setTop (mkF m 329 #[.val (.int p1), .val (.int p2), .val (.int p3), .val (.int p4), .val (.int p5), .val (.int p6), .val (.int of), .val (.ref b), .val (.int lim), .val (.int av), .val (.int xx), .val (.int b1), .val (.int b2), .val (.int b3), .val (.int (4 : Int32)), .val (.int (128 : Int32)), .val (.int (143 : Int32)), .unset] [(.int (1 : Int32)), (.int av)])) _
                      refine XS.icmpNo X76.here hx rfl (hb hby at_329) rfl (tlt hc329_96).2.1 ?_
                      show Steps p.tables e below (T76.setTop (mkF m 332 #[.val (.int p1), .val (.int p2), .val (.int p3), .val (.int p4), .val (.int p5), .val (.int p6), .val (.int of), .val (.ref b), .val (.int lim), .val (.int av), .val (.int xx), .val (.int b1), .val (.int b2), .val (.int b3), .val (.int (4 : Int32)), .val (.int (128 : Int32)), .val (.int (143 : Int32)), .unset] [])) _
                      refine X76.ldcInt hx hown (mvT hZ (hw _ (List.mem_of_getElem? (i := 9) rfl))) (g := (mkF m 332 #[.val (.int p1), .val (.int p2), .val (.int p3), .val (.int p4), .val (.int p5), .val (.int p6), .val (.int of), .val (.ref b), .val (.int lim), .val (.int av), .val (.int xx), .val (.int b1), .val (.int b2), .val (.int b3), .val (.int (4 : Int32)), .val (.int (128 : Int32)), .val (.int (143 : Int32)), .unset] [])) rfl (hb hby at_332) _ ?_
                      refine XS.istore X76.here hx rfl (hb hby at_334) rfl (l' := #[.val (.int p1), .val (.int p2), .val (.int p3), .val (.int p4), .val (.int p5), .val (.int p6), .val (.int of), .val (.ref b), .val (.int lim), .val (.int av), .val (.int xx), .val (.int b1), .val (.int b2), .val (.int b3), .val (.int (4 : Int32)), .val (.int (128 : Int32)), .val (.int (143 : Int32)), .val (.int (-2147483648 : Int32))]) rfl ?_
                      refine XS.goto X76.here hx rfl (pc0 := 336) (pc' := 453) rfl (hb hby at_336) (by decide) (by decide) ?_
                      exact k
                    refine ⟨T76, _, (4 : Int32), (128 : Int32), (143 : Int32), X76, e76, N76, fun t k => pre97 t ?_⟩
                    have eE : own_E xx.toInt b1.toInt b2.toInt b3.toInt av.toInt = (-2147483648 : Int32) := (lf0_37 (xx.toInt) (b1.toInt) (b2.toInt) (b3.toInt) (av.toInt) r_xx r_b1 r_b2 r_b3 r_av i1 i_hc181_9 i21 i_hc220_34 i46 i_hc259_59 i76 i_hc298_94 i_hc329_96)
                    rw [eE] at k
                    exact k
                  · have i_hc329_96 : ¬ (av.toInt < (1 : Int32).toInt) := fun q => hc329_96 ((Int32.lt_iff_toInt_lt).mpr q)
                    obtain ⟨_, _, ⟨T98, L98, k98, n98⟩, -, X98, ⟨Lc98, hQ98, l98, y98, z98⟩, st98⟩ := Jvm.LawKit.callS X76 hx (y := (⟨"com/example/kindgen/kindgen/runtime/Utf8CursorSequenceLengthPinLaw", "in", "(III)Z"⟩ : MethodName)) hown (mvT hZ (hw _ (List.mem_of_getElem? (i := 1) rfl))) (mvT hZ (hw _ (List.mem_of_getElem? (i := 2) rfl))) (mvT hZ (hw _ (List.mem_of_getElem? (i := 3) rfl))) (mvT hZ (hw _ (List.mem_of_getElem? (i := 4) rfl))) (by decide) (backOf (W := 0) (rm1 l Z a0 hw [] b1 (128 : Int32) (143 : Int32) h0 n0 Z0) hZ (hw _ (List.mem_of_getElem? (i := 4) rfl)) (hw _ (List.mem_of_getElem? (i := 3) rfl)) (by decide) (by decide)) (g := (mkF m 345 #[.val (.int p1), .val (.int p2), .val (.int p3), .val (.int p4), .val (.int p5), .val (.int p6), .val (.int of), .val (.ref b), .val (.int lim), .val (.int av), .val (.int xx), .val (.int b1), .val (.int b2), .val (.int b3), .val (.int (4 : Int32)), .val (.int (128 : Int32)), .val (.int (143 : Int32)), .unset] [(.int (143 : Int32)), (.int (128 : Int32)), (.int b1)])) rfl (by rw [hml]; rfl) (argsL := [(.int b1), (.int (128 : Int32)), (.int (143 : Int32))]) (rest := []) (lenOf pd_0 rfl) rfl (by show 2 * 0 + _ ≤ _; exact Nat.le_of_eq rfl) (hb hby at_345) (fun _ _ => ⟨rfl, e76, (by decide : 1 + 0 ≤ _), (by decide : 5 + 0 ≤ _)⟩)
                    dsimp only [Pt.U, Pt.locs, Pt.cells, Pt.slots] at X98 l98 y98 z98 st98 hQ98
                    subst l98 y98 z98
                    obtain ⟨rfl, N98q, e98⟩ := hQ98
                    have N98 := Fr.app N76 N98q
                    rcases own_in b1 (128 : Int32) (143 : Int32) with ⟨v98, i98a, i98b⟩ | ⟨v98, i98⟩
                    · rw [v98] at st98
                      have pre99 : ∀ t, Steps p.tables e below (T98.setTop (mkF m 373 #[.val (.int p1), .val (.int p2), .val (.int p3), .val (.int p4), .val (.int p5), .val (.int p6), .val (.int of), .val (.ref b), .val (.int lim), .val (.int av), .val (.int xx), .val (.int b1), .val (.int b2), .val (.int b3), .val (.int (4 : Int32)), .val (.int (128 : Int32)), .val (.int (143 : Int32)), .unset] [(.int (2 : Int32)), (.int av)])) t → Steps p.tables e below (T0.setTop (mkF m 146 #[.val (.int p1), .val (.int p2), .val (.int p3), .val (.int p4), .val (.int p5), .val (.int p6), .val (.int of), .val (.ref b), .val (.int lim), .val (.int av), .val (.int xx), .val (.int b1), .val (.int b2), .val (.int b3), .unset, .unset, .unset, .unset] [])) t := by
                        intro t k
                        refine pre95 t ?_
                        show Steps p.tables e below (T76.setTop (mkF m 329 #[.val (.int p1), .val (.int p2), .val (.int p3), .val (.int p4), .val (.int p5), .val (.int p6), .val (.int of), .val (.ref b), .val (.int lim), .val (.int av), .val (.int xx), .val (.int b1), .val (.int b2), .val (.int b3), .val (.int (4 : Int32)), .val (.int (128 : Int32)), .val (.int (143 : Int32)), .unset] [(.int (1 : Int32)), (.int av)])) _
                        refine XS.icmpYes X76.here hx rfl (pc0 := 329) (pc' := 339) rfl (hb hby at_329) rfl (flt hc329_96).2.1 (by decide) (by decide) ?_
                        refine XS.iload X76.here hx rfl (hb hby at_339) rfl ?_
                        refine XS.iload X76.here hx rfl (hb hby at_341) rfl ?_
                        refine XS.iload X76.here hx rfl (hb hby at_343) rfl ?_
                        show Steps p.tables e below (T76.setTop (mkF m 345 #[.val (.int p1), .val (.int p2), .val (.int p3), .val (.int p4), .val (.int p5), .val (.int p6), .val (.int of), .val (.ref b), .val (.int lim), .val (.int av), .val (.int xx), .val (.int b1), .val (.int b2), .val (.int b3), .val (.int (4 : Int32)), .val (.int (128 : Int32)), .val (.int (143 : Int32)), .unset] [(.int (143 : Int32)), (.int (128 : Int32)), (.int b1)])) _
                        refine st98 _ ?_
                        show Steps p.tables e below (T98.setTop (mkF m 348 #[.val (.int p1), .val (.int p2), .val (.int p3), .val (.int p4), .val (.int p5), .val (.int p6), .val (.int of), .val (.ref b), .val (.int lim), .val (.int av), .val (.int xx), .val (.int b1), .val (.int b2), .val (.int b3), .val (.int (4 : Int32)), .val (.int (128 : Int32)), .val (.int (143 : Int32)), .unset] [(.int (1 : Int32))])) _
                        refine XS.ifYes X98.here hx rfl (pc0 := 348) (pc' := 358) rfl (hb hby at_348) rfl ((if0 _ _).trans (feq (by decide : ¬ ((1 : Int32) = (0 : Int32)))).2) (by decide) (by decide) ?_
                        refine XS.iload X98.here hx rfl (hb hby at_358) rfl ?_
                        refine XS.iconst X98.here hx rfl (hb hby at_360) ?_
                        show Steps p.tables e below (T98.setTop (mkF m 361 #[.val (.int p1), .val (.int p2), .val (.int p3), .val (.int p4), .val (.int p5), .val (.int p6), .val (.int of), .val (.ref b), .val (.int lim), .val (.int av), .val (.int xx), .val (.int b1), .val (.int b2), .val (.int b3), .val (.int (4 : Int32)), .val (.int (128 : Int32)), .val (.int (143 : Int32)), .unset] [(.int (2 : Int32)), (.int (4 : Int32))])) _
                        refine XS.icmpYes X98.here hx rfl (pc0 := 361) (pc' := 370) rfl (hb hby at_361) rfl (feq (by decide : ¬ ((4 : Int32) = (2 : Int32)))).2 (by decide) (by decide) ?_
                        refine XS.iload X98.here hx rfl (hb hby at_370) rfl ?_
                        refine XS.iconst X98.here hx rfl (hb hby at_372) ?_
                        exact k
                      by_cases hc373_100 : av < (2 : Int32)
                      · have i_hc373_100 : av.toInt < (2 : Int32).toInt := (Int32.lt_iff_toInt_lt).mp hc373_100
                        have pre101 : ∀ t, Steps p.tables e below (T98.setTop (mkF m 453 #[.val (.int p1), .val (.int p2), .val (.int p3), .val (.int p4), .val (.int p5), .val (.int p6), .val (.int of), .val (.ref b), .val (.int lim), .val (.int av), .val (.int xx), .val (.int b1), .val (.int b2), .val (.int b3), .val (.int (4 : Int32)), .val (.int (128 : Int32)), .val (.int (143 : Int32)), .val (.int (-2147483648 : Int32))] [])) t → Steps p.tables e below (T0.setTop (mkF m 146 #[.val (.int p1), .val (.int p2), .val (.int p3), .val (.int p4), .val (.int p5), .val (.int p6), .val (.int of), .val (.ref b), .val (.int lim), .val (.int av), .val (.int xx), .val (.int b1), .val (.int b2), .val (.int b3), .unset, .unset, .unset, .unset] [])) t := by
                          intro t k
                          refine pre99 t ?_
                          show Steps p.tables e below (T98.setTop (mkF m 373 #[.val (.int p1), .val (.int p2), .val (.int p3), .val (.int p4), .val (.int p5), .val (.int p6), .val (.int of), .val (.ref b), .val (.int lim), .val (.int av), .val (.int xx), .val (.int b1), .val (.int b2), .val (.int b3), .val (.int (4 : Int32)), .val (.int (128 : Int32)), .val (.int (143 : Int32)), .unset] [(.int (2 : Int32)), (.int av)])) _
                          refine XS.icmpNo X98.here hx rfl (hb hby at_373) rfl (tlt hc373_100).2.1 ?_
                          show Steps p.tables e below (T98.setTop (mkF m 376 #[.val (.int p1), .val (.int p2), .val (.int p3), .val (.int p4), .val (.int p5), .val (.int p6), .val (.int of), .val (.ref b), .val (.int lim), .val (.int av), .val (.int xx), .val (.int b1), .val (.int b2), .val (.int b3), .val (.int (4 : Int32)), .val (.int (128 : Int32)), .val (.int (143 : Int32)), .unset] [])) _
                          refine X98.ldcInt hx hown (mvT hZ (hw _ (List.mem_of_getElem? (i := 9) rfl))) (g := (mkF m 376 #[.val (.int p1), .val (.int p2), .val (.int p3), .val (.int p4), .val (.int p5), .val (.int p6), .val (.int of), .val (.ref b), .val (.int lim), .val (.int av), .val (.int xx), .val (.int b1), .val (.int b2), .val (.int b3), .val (.int (4 : Int32)), .val (.int (128 : Int32)), .val (.int (143 : Int32)), .unset] [])) rfl (hb hby at_376) _ ?_
                          refine XS.istore X98.here hx rfl (hb hby at_378) rfl (l' := #[.val (.int p1), .val (.int p2), .val (.int p3), .val (.int p4), .val (.int p5), .val (.int p6), .val (.int of), .val (.ref b), .val (.int lim), .val (.int av), .val (.int xx), .val (.int b1), .val (.int b2), .val (.int b3), .val (.int (4 : Int32)), .val (.int (128 : Int32)), .val (.int (143 : Int32)), .val (.int (-2147483648 : Int32))]) rfl ?_
                          refine XS.goto X98.here hx rfl (pc0 := 380) (pc' := 453) rfl (hb hby at_380) (by decide) (by decide) ?_
                          exact k
                        refine ⟨T98, _, (4 : Int32), (128 : Int32), (143 : Int32), X98, e98, N98, fun t k => pre101 t ?_⟩
                        have eE : own_E xx.toInt b1.toInt b2.toInt b3.toInt av.toInt = (-2147483648 : Int32) := (lf0_38 (xx.toInt) (b1.toInt) (b2.toInt) (b3.toInt) (av.toInt) r_xx r_b1 r_b2 r_b3 r_av i1 i_hc181_9 i21 i_hc220_34 i46 i_hc259_59 i76 i_hc298_94 i_hc329_96 i98a i98b i_hc373_100)
                        rw [eE] at k
                        exact k
                      · have i_hc373_100 : ¬ (av.toInt < (2 : Int32).toInt) := fun q => hc373_100 ((Int32.lt_iff_toInt_lt).mpr q)
                        obtain ⟨_, _, ⟨T102, L102, k102, n102⟩, -, X102, ⟨Lc102, hQ102, l102, y102, z102⟩, st102⟩ := Jvm.LawKit.callS X98 hx (y := (⟨"com/example/kindgen/kindgen/runtime/Utf8CursorSequenceLengthPinLaw", "in", "(III)Z"⟩ : MethodName)) hown (mvT hZ (hw _ (List.mem_of_getElem? (i := 1) rfl))) (mvT hZ (hw _ (List.mem_of_getElem? (i := 2) rfl))) (mvT hZ (hw _ (List.mem_of_getElem? (i := 3) rfl))) (mvT hZ (hw _ (List.mem_of_getElem? (i := 4) rfl))) (by decide) (backOf (W := 0) (rm1 l Z a0 hw [] b2 (128 : Int32) (191 : Int32) h0 n0 Z0) hZ (hw _ (List.mem_of_getElem? (i := 4) rfl)) (hw _ (List.mem_of_getElem? (i := 3) rfl)) (by decide) (by decide)) (g := (mkF m 391 #[.val (.int p1), .val (.int p2), .val (.int p3), .val (.int p4), .val (.int p5), .val (.int p6), .val (.int of), .val (.ref b), .val (.int lim), .val (.int av), .val (.int xx), .val (.int b1), .val (.int b2), .val (.int b3), .val (.int (4 : Int32)), .val (.int (128 : Int32)), .val (.int (143 : Int32)), .unset] [(.int (191 : Int32)), (.int (128 : Int32)), (.int b2)])) rfl (by rw [hml]; rfl) (argsL := [(.int b2), (.int (128 : Int32)), (.int (191 : Int32))]) (rest := []) (lenOf pd_0 rfl) rfl (by show 2 * 0 + _ ≤ _; exact Nat.le_of_eq rfl) (hb hby at_391) (fun _ _ => ⟨rfl, e98, (by decide : 1 + 0 ≤ _), (by decide : 5 + 0 ≤ _)⟩)
                        dsimp only [Pt.U, Pt.locs, Pt.cells, Pt.slots] at X102 l102 y102 z102 st102 hQ102
                        subst l102 y102 z102
                        obtain ⟨rfl, N102q, e102⟩ := hQ102
                        have N102 := Fr.app N98 N102q
                        rcases own_in b2 (128 : Int32) (191 : Int32) with ⟨v102, i102a, i102b⟩ | ⟨v102, i102⟩
                        · rw [v102] at st102
                          have pre103 : ∀ t, Steps p.tables e below (T102.setTop (mkF m 419 #[.val (.int p1), .val (.int p2), .val (.int p3), .val (.int p4), .val (.int p5), .val (.int p6), .val (.int of), .val (.ref b), .val (.int lim), .val (.int av), .val (.int xx), .val (.int b1), .val (.int b2), .val (.int b3), .val (.int (4 : Int32)), .val (.int (128 : Int32)), .val (.int (143 : Int32)), .unset] [(.int (3 : Int32)), (.int av)])) t → Steps p.tables e below (T0.setTop (mkF m 146 #[.val (.int p1), .val (.int p2), .val (.int p3), .val (.int p4), .val (.int p5), .val (.int p6), .val (.int of), .val (.ref b), .val (.int lim), .val (.int av), .val (.int xx), .val (.int b1), .val (.int b2), .val (.int b3), .unset, .unset, .unset, .unset] [])) t := by
                            intro t k
                            refine pre99 t ?_
                            show Steps p.tables e below (T98.setTop (mkF m 373 #[.val (.int p1), .val (.int p2), .val (.int p3), .val (.int p4), .val (.int p5), .val (.int p6), .val (.int of), .val (.ref b), .val (.int lim), .val (.int av), .val (.int xx), .val (.int b1), .val (.int b2), .val (.int b3), .val (.int (4 : Int32)), .val (.int (128 : Int32)), .val (.int (143 : Int32)), .unset] [(.int (2 : Int32)), (.int av)])) _
                            refine XS.icmpYes X98.here hx rfl (pc0 := 373) (pc' := 383) rfl (hb hby at_373) rfl (flt hc373_100).2.1 (by decide) (by decide) ?_
                            refine XS.iload X98.here hx rfl (hb hby at_383) rfl ?_
                            refine XS.sipush X98.here hx rfl (hb hby at_385) ?_
                            refine XS.sipush X98.here hx rfl (hb hby at_388) ?_
                            show Steps p.tables e below (T98.setTop (mkF m 391 #[.val (.int p1), .val (.int p2), .val (.int p3), .val (.int p4), .val (.int p5), .val (.int p6), .val (.int of), .val (.ref b), .val (.int lim), .val (.int av), .val (.int xx), .val (.int b1), .val (.int b2), .val (.int b3), .val (.int (4 : Int32)), .val (.int (128 : Int32)), .val (.int (143 : Int32)), .unset] [(.int (191 : Int32)), (.int (128 : Int32)), (.int b2)])) _
                            refine st102 _ ?_
                            show Steps p.tables e below (T102.setTop (mkF m 394 #[.val (.int p1), .val (.int p2), .val (.int p3), .val (.int p4), .val (.int p5), .val (.int p6), .val (.int of), .val (.ref b), .val (.int lim), .val (.int av), .val (.int xx), .val (.int b1), .val (.int b2), .val (.int b3), .val (.int (4 : Int32)), .val (.int (128 : Int32)), .val (.int (143 : Int32)), .unset] [(.int (1 : Int32))])) _
                            refine XS.ifYes X102.here hx rfl (pc0 := 394) (pc' := 404) rfl (hb hby at_394) rfl ((if0 _ _).trans (feq (by decide : ¬ ((1 : Int32) = (0 : Int32)))).2) (by decide) (by decide) ?_
                            refine XS.iload X102.here hx rfl (hb hby at_404) rfl ?_
                            refine XS.iconst X102.here hx rfl (hb hby at_406) ?_
                            show Steps p.tables e below (T102.setTop (mkF m 407 #[.val (.int p1), .val (.int p2), .val (.int p3), .val (.int p4), .val (.int p5), .val (.int p6), .val (.int of), .val (.ref b), .val (.int lim), .val (.int av), .val (.int xx), .val (.int b1), .val (.int b2), .val (.int b3), .val (.int (4 : Int32)), .val (.int (128 : Int32)), .val (.int (143 : Int32)), .unset] [(.int (3 : Int32)), (.int (4 : Int32))])) _
                            refine XS.icmpYes X102.here hx rfl (pc0 := 407) (pc' := 416) rfl (hb hby at_407) rfl (feq (by decide : ¬ ((4 : Int32) = (3 : Int32)))).2 (by decide) (by decide) ?_
                            refine XS.iload X102.here hx rfl (hb hby at_416) rfl ?_
                            refine XS.iconst X102.here hx rfl (hb hby at_418) ?_
                            exact k
                          by_cases hc419_104 : av < (3 : Int32)
                          · have i_hc419_104 : av.toInt < (3 : Int32).toInt := (Int32.lt_iff_toInt_lt).mp hc419_104
                            have pre105 : ∀ t, Steps p.tables e below (T102.setTop (mkF m 453 #[.val (.int p1), .val (.int p2), .val (.int p3), .val (.int p4), .val (.int p5), .val (.int p6), .val (.int of), .val (.ref b), .val (.int lim), .val (.int av), .val (.int xx), .val (.int b1), .val (.int b2), .val (.int b3), .val (.int (4 : Int32)), .val (.int (128 : Int32)), .val (.int (143 : Int32)), .val (.int (-2147483648 : Int32))] [])) t → Steps p.tables e below (T0.setTop (mkF m 146 #[.val (.int p1), .val (.int p2), .val (.int p3), .val (.int p4), .val (.int p5), .val (.int p6), .val (.int of), .val (.ref b), .val (.int lim), .val (.int av), .val (.int xx), .val (.int b1), .val (.int b2), .val (.int b3), .unset, .unset, .unset, .unset] [])) t := by
                              intro t k
                              refine pre103 t ?_
                              show Steps p.tables e below (T102.setTop (mkF m 419 #[.val (.int p1), .val (.int p2), .val (.int p3), .val (.int p4), .val (.int p5), .val (.int p6), .val (.int of), .val (.ref b), .val (.int lim), .val (.int av), .val (.int xx), .val (.int b1), .val (.int b2), .val (.int b3), .val (.int (4 : Int32)), .val (.int (128 : Int32)), .val (.int (143 : Int32)), .unset] [(.int (3 : Int32)), (.int av)])) _
                              refine XS.icmpNo X102.here hx rfl (hb hby at_419) rfl (tlt hc419_104).2.1 ?_
                              show Steps p.tables e below (T102.setTop (mkF m 422 #[.val (.int p1), .val (.int p2), .val (.int p3), .val (.int p4), .val (.int p5), .val (.int p6), .val (.int of), .val (.ref b), .val (.int lim), .val (.int av), .val (.int xx), .val (.int b1), .val (.int b2), .val (.int b3), .val (.int (4 : Int32)), .val (.int (128 : Int32)), .val (.int (143 : Int32)), .unset] [])) _
                              refine X102.ldcInt hx hown (mvT hZ (hw _ (List.mem_of_getElem? (i := 9) rfl))) (g := (mkF m 422 #[.val (.int p1), .val (.int p2), .val (.int p3), .val (.int p4), .val (.int p5), .val (.int p6), .val (.int of), .val (.ref b), .val (.int lim), .val (.int av), .val (.int xx), .val (.int b1), .val (.int b2), .val (.int b3), .val (.int (4 : Int32)), .val (.int (128 : Int32)), .val (.int (143 : Int32)), .unset] [])) rfl (hb hby at_422) _ ?_
                              refine XS.istore X102.here hx rfl (hb hby at_424) rfl (l' := #[.val (.int p1), .val (.int p2), .val (.int p3), .val (.int p4), .val (.int p5), .val (.int p6), .val (.int of), .val (.ref b), .val (.int lim), .val (.int av), .val (.int xx), .val (.int b1), .val (.int b2), .val (.int b3), .val (.int (4 : Int32)), .val (.int (128 : Int32)), .val (.int (143 : Int32)), .val (.int (-2147483648 : Int32))]) rfl ?_
                              refine XS.goto X102.here hx rfl (pc0 := 426) (pc' := 453) rfl (hb hby at_426) (by decide) (by decide) ?_
                              exact k
                            refine ⟨T102, _, (4 : Int32), (128 : Int32), (143 : Int32), X102, e102, N102, fun t k => pre105 t ?_⟩
                            have eE : own_E xx.toInt b1.toInt b2.toInt b3.toInt av.toInt = (-2147483648 : Int32) := (lf0_39 (xx.toInt) (b1.toInt) (b2.toInt) (b3.toInt) (av.toInt) r_xx r_b1 r_b2 r_b3 r_av i1 i_hc181_9 i21 i_hc220_34 i46 i_hc259_59 i76 i_hc298_94 i_hc329_96 i98a i98b i_hc373_100 i102a i102b i_hc419_104)
                            rw [eE] at k
                            exact k
                          · have i_hc419_104 : ¬ (av.toInt < (3 : Int32).toInt) := fun q => hc419_104 ((Int32.lt_iff_toInt_lt).mpr q)
                            obtain ⟨_, _, ⟨T106, L106, k106, n106⟩, -, X106, ⟨Lc106, hQ106, l106, y106, z106⟩, st106⟩ := Jvm.LawKit.callS X102 hx (y := (⟨"com/example/kindgen/kindgen/runtime/Utf8CursorSequenceLengthPinLaw", "in", "(III)Z"⟩ : MethodName)) hown (mvT hZ (hw _ (List.mem_of_getElem? (i := 1) rfl))) (mvT hZ (hw _ (List.mem_of_getElem? (i := 2) rfl))) (mvT hZ (hw _ (List.mem_of_getElem? (i := 3) rfl))) (mvT hZ (hw _ (List.mem_of_getElem? (i := 4) rfl))) (by decide) (backOf (W := 0) (rm1 l Z a0 hw [] b3 (128 : Int32) (191 : Int32) h0 n0 Z0) hZ (hw _ (List.mem_of_getElem? (i := 4) rfl)) (hw _ (List.mem_of_getElem? (i := 3) rfl)) (by decide) (by decide)) (g := (mkF m 437 #[.val (.int p1), .val (.int p2), .val (.int p3), .val (.int p4), .val (.int p5), .val (.int p6), .val (.int of), .val (.ref b), .val (.int lim), .val (.int av), .val (.int xx), .val (.int b1), .val (.int b2), .val (.int b3), .val (.int (4 : Int32)), .val (.int (128 : Int32)), .val (.int (143 : Int32)), .unset] [(.int (191 : Int32)), (.int (128 : Int32)), (.int b3)])) rfl (by rw [hml]; rfl) (argsL := [(.int b3), (.int (128 : Int32)), (.int (191 : Int32))]) (rest := []) (lenOf pd_0 rfl) rfl (by show 2 * 0 + _ ≤ _; exact Nat.le_of_eq rfl) (hb hby at_437) (fun _ _ => ⟨rfl, e102, (by decide : 1 + 0 ≤ _), (by decide : 5 + 0 ≤ _)⟩)
                            dsimp only [Pt.U, Pt.locs, Pt.cells, Pt.slots] at X106 l106 y106 z106 st106 hQ106
                            subst l106 y106 z106
                            obtain ⟨rfl, N106q, e106⟩ := hQ106
                            have N106 := Fr.app N102 N106q
                            rcases own_in b3 (128 : Int32) (191 : Int32) with ⟨v106, i106a, i106b⟩ | ⟨v106, i106⟩
                            · rw [v106] at st106
                              have pre107 : ∀ t, Steps p.tables e below (T106.setTop (mkF m 453 #[.val (.int p1), .val (.int p2), .val (.int p3), .val (.int p4), .val (.int p5), .val (.int p6), .val (.int of), .val (.ref b), .val (.int lim), .val (.int av), .val (.int xx), .val (.int b1), .val (.int b2), .val (.int b3), .val (.int (4 : Int32)), .val (.int (128 : Int32)), .val (.int (143 : Int32)), .val (.int (4 : Int32))] [])) t → Steps p.tables e below (T0.setTop (mkF m 146 #[.val (.int p1), .val (.int p2), .val (.int p3), .val (.int p4), .val (.int p5), .val (.int p6), .val (.int of), .val (.ref b), .val (.int lim), .val (.int av), .val (.int xx), .val (.int b1), .val (.int b2), .val (.int b3), .unset, .unset, .unset, .unset] [])) t := by
                                intro t k
                                refine pre103 t ?_
                                show Steps p.tables e below (T102.setTop (mkF m 419 #[.val (.int p1), .val (.int p2), .val (.int p3), .val (.int p4), .val (.int p5), .val (.int p6), .val (.int of), .val (.ref b), .val (.int lim), .val (.int av), .val (.int xx), .val (.int b1), .val (.int b2), .val (.int b3), .val (.int (4 : Int32)), .val (.int (128 : Int32)), .val (.int (143 : Int32)), .unset] [(.int (3 : Int32)), (.int av)])) _
                                refine XS.icmpYes X102.here hx rfl (pc0 := 419) (pc' := 429) rfl (hb hby at_419) rfl (flt hc419_104).2.1 (by decide) (by decide) ?_
                                refine XS.iload X102.here hx rfl (hb hby at_429) rfl ?_
                                refine XS.sipush X102.here hx rfl (hb hby at_431) ?_
                                refine XS.sipush X102.here hx rfl (hb hby at_434) ?_
                                show Steps p.tables e below (T102.setTop (mkF m 437 #[.val (.int p1), .val (.int p2), .val (.int p3), .val (.int p4), .val (.int p5), .val (.int p6), .val (.int of), .val (.ref b), .val (.int lim), .val (.int av), .val (.int xx), .val (.int b1), .val (.int b2), .val (.int b3), .val (.int (4 : Int32)), .val (.int (128 : Int32)), .val (.int (143 : Int32)), .unset] [(.int (191 : Int32)), (.int (128 : Int32)), (.int b3)])) _
                                refine st106 _ ?_
                                show Steps p.tables e below (T106.setTop (mkF m 440 #[.val (.int p1), .val (.int p2), .val (.int p3), .val (.int p4), .val (.int p5), .val (.int p6), .val (.int of), .val (.ref b), .val (.int lim), .val (.int av), .val (.int xx), .val (.int b1), .val (.int b2), .val (.int b3), .val (.int (4 : Int32)), .val (.int (128 : Int32)), .val (.int (143 : Int32)), .unset] [(.int (1 : Int32))])) _
                                refine XS.ifYes X106.here hx rfl (pc0 := 440) (pc' := 450) rfl (hb hby at_440) rfl ((if0 _ _).trans (feq (by decide : ¬ ((1 : Int32) = (0 : Int32)))).2) (by decide) (by decide) ?_
                                refine XS.iconst X106.here hx rfl (hb hby at_450) ?_
                                refine XS.istore X106.here hx rfl (hb hby at_451) rfl (l' := #[.val (.int p1), .val (.int p2), .val (.int p3), .val (.int p4), .val (.int p5), .val (.int p6), .val (.int of), .val (.ref b), .val (.int lim), .val (.int av), .val (.int xx), .val (.int b1), .val (.int b2), .val (.int b3), .val (.int (4 : Int32)), .val (.int (128 : Int32)), .val (.int (143 : Int32)), .val (.int (4 : Int32))]) rfl ?_
                                exact k
                              refine ⟨T106, _, (4 : Int32), (128 : Int32), (143 : Int32), X106, e106, N106, fun t k => pre107 t ?_⟩
                              have eE : own_E xx.toInt b1.toInt b2.toInt b3.toInt av.toInt = (4 : Int32) := (lf0_40 (xx.toInt) (b1.toInt) (b2.toInt) (b3.toInt) (av.toInt) r_xx r_b1 r_b2 r_b3 r_av i1 i_hc181_9 i21 i_hc220_34 i46 i_hc259_59 i76 i_hc298_94 i_hc329_96 i98a i98b i_hc373_100 i102a i102b i_hc419_104 i106a i106b)
                              rw [eE] at k
                              exact k
                            · rw [v106] at st106
                              have pre108 : ∀ t, Steps p.tables e below (T106.setTop (mkF m 453 #[.val (.int p1), .val (.int p2), .val (.int p3), .val (.int p4), .val (.int p5), .val (.int p6), .val (.int of), .val (.ref b), .val (.int lim), .val (.int av), .val (.int xx), .val (.int b1), .val (.int b2), .val (.int b3), .val (.int (4 : Int32)), .val (.int (128 : Int32)), .val (.int (143 : Int32)), .val (.int (-4 : Int32))] [])) t → Steps p.tables e below (T0.setTop (mkF m 146 #[.val (.int p1), .val (.int p2), .val (.int p3), .val (.int p4), .val (.int p5), .val (.int p6), .val (.int of), .val (.ref b), .val (.int lim), .val (.int av), .val (.int xx), .val (.int b1), .val (.int b2), .val (.int b3), .unset, .unset, .unset, .unset] [])) t := by
                                intro t k
                                refine pre103 t ?_
                                show Steps p.tables e below (T102.setTop (mkF m 419 #[.val (.int p1), .val (.int p2), .val (.int p3), .val (.int p4), .val (.int p5), .val (.int p6), .val (.int of), .val (.ref b), .val (.int lim), .val (.int av), .val (.int xx), .val (.int b1), .val (.int b2), .val (.int b3), .val (.int (4 : Int32)), .val (.int (128 : Int32)), .val (.int (143 : Int32)), .unset] [(.int (3 : Int32)), (.int av)])) _
                                refine XS.icmpYes X102.here hx rfl (pc0 := 419) (pc' := 429) rfl (hb hby at_419) rfl (flt hc419_104).2.1 (by decide) (by decide) ?_
                                refine XS.iload X102.here hx rfl (hb hby at_429) rfl ?_
                                refine XS.sipush X102.here hx rfl (hb hby at_431) ?_
                                refine XS.sipush X102.here hx rfl (hb hby at_434) ?_
                                show Steps p.tables e below (T102.setTop (mkF m 437 #[.val (.int p1), .val (.int p2), .val (.int p3), .val (.int p4), .val (.int p5), .val (.int p6), .val (.int of), .val (.ref b), .val (.int lim), .val (.int av), .val (.int xx), .val (.int b1), .val (.int b2), .val (.int b3), .val (.int (4 : Int32)), .val (.int (128 : Int32)), .val (.int (143 : Int32)), .unset] [(.int (191 : Int32)), (.int (128 : Int32)), (.int b3)])) _
                                refine st106 _ ?_
                                show Steps p.tables e below (T106.setTop (mkF m 440 #[.val (.int p1), .val (.int p2), .val (.int p3), .val (.int p4), .val (.int p5), .val (.int p6), .val (.int of), .val (.ref b), .val (.int lim), .val (.int av), .val (.int xx), .val (.int b1), .val (.int b2), .val (.int b3), .val (.int (4 : Int32)), .val (.int (128 : Int32)), .val (.int (143 : Int32)), .unset] [(.int (0 : Int32))])) _
                                refine XS.ifNo X106.here hx rfl (hb hby at_440) rfl ((if0 _ _).trans (teq (by decide : (0 : Int32) = (0 : Int32))).2) ?_
                                refine XS.bipush X106.here hx rfl (hb hby at_443) ?_
                                refine XS.istore X106.here hx rfl (hb hby at_445) rfl (l' := #[.val (.int p1), .val (.int p2), .val (.int p3), .val (.int p4), .val (.int p5), .val (.int p6), .val (.int of), .val (.ref b), .val (.int lim), .val (.int av), .val (.int xx), .val (.int b1), .val (.int b2), .val (.int b3), .val (.int (4 : Int32)), .val (.int (128 : Int32)), .val (.int (143 : Int32)), .val (.int (-4 : Int32))]) rfl ?_
                                refine XS.goto X106.here hx rfl (pc0 := 447) (pc' := 453) rfl (hb hby at_447) (by decide) (by decide) ?_
                                exact k
                              refine ⟨T106, _, (4 : Int32), (128 : Int32), (143 : Int32), X106, e106, N106, fun t k => pre108 t ?_⟩
                              have eE : own_E xx.toInt b1.toInt b2.toInt b3.toInt av.toInt = (-4 : Int32) := (lf0_41 (xx.toInt) (b1.toInt) (b2.toInt) (b3.toInt) (av.toInt) r_xx r_b1 r_b2 r_b3 r_av i1 i_hc181_9 i21 i_hc220_34 i46 i_hc259_59 i76 i_hc298_94 i_hc329_96 i98a i98b i_hc373_100 i102a i102b i_hc419_104 i106)
                              rw [eE] at k
                              exact k
                        · rw [v102] at st102
                          have pre109 : ∀ t, Steps p.tables e below (T102.setTop (mkF m 453 #[.val (.int p1), .val (.int p2), .val (.int p3), .val (.int p4), .val (.int p5), .val (.int p6), .val (.int of), .val (.ref b), .val (.int lim), .val (.int av), .val (.int xx), .val (.int b1), .val (.int b2), .val (.int b3), .val (.int (4 : Int32)), .val (.int (128 : Int32)), .val (.int (143 : Int32)), .val (.int (-3 : Int32))] [])) t → Steps p.tables e below (T0.setTop (mkF m 146 #[.val (.int p1), .val (.int p2), .val (.int p3), .val (.int p4), .val (.int p5), .val (.int p6), .val (.int of), .val (.ref b), .val (.int lim), .val (.int av), .val (.int xx), .val (.int b1), .val (.int b2), .val (.int b3), .unset, .unset, .unset, .unset] [])) t := by
                            intro t k
                            refine pre99 t ?_
                            show Steps p.tables e below (T98.setTop (mkF m 373 #[.val (.int p1), .val (.int p2), .val (.int p3), .val (.int p4), .val (.int p5), .val (.int p6), .val (.int of), .val (.ref b), .val (.int lim), .val (.int av), .val (.int xx), .val (.int b1), .val (.int b2), .val (.int b3), .val (.int (4 : Int32)), .val (.int (128 : Int32)), .val (.int (143 : Int32)), .unset] [(.int (2 : Int32)), (.int av)])) _
                            refine XS.icmpYes X98.here hx rfl (pc0 := 373) (pc' := 383) rfl (hb hby at_373) rfl (flt hc373_100).2.1 (by decide) (by decide) ?_
                            refine XS.iload X98.here hx rfl (hb hby at_383) rfl ?_
                            refine XS.sipush X98.here hx rfl (hb hby at_385) ?_
                            refine XS.sipush X98.here hx rfl (hb hby at_388) ?_
                            show Steps p.tables e below (T98.setTop (mkF m 391 #[.val (.int p1), .val (.int p2), .val (.int p3), .val (.int p4), .val (.int p5), .val (.int p6), .val (.int of), .val (.ref b), .val (.int lim), .val (.int av), .val (.int xx), .val (.int b1), .val (.int b2), .val (.int b3), .val (.int (4 : Int32)), .val (.int (128 : Int32)), .val (.int (143 : Int32)), .unset] [(.int (191 : Int32)), (.int (128 : Int32)), (.int b2)])) _
                            refine st102 _ ?_
                            show Steps p.tables e below (T102.setTop (mkF m 394 #[.val (.int p1), .val (.int p2), .val (.int p3), .val (.int p4), .val (.int p5), .val (.int p6), .val (.int of), .val (.ref b), .val (.int lim), .val (.int av), .val (.int xx), .val (.int b1), .val (.int b2), .val (.int b3), .val (.int (4 : Int32)), .val (.int (128 : Int32)), .val (.int (143 : Int32)), .unset] [(.int (0 : Int32))])) _
                            refine XS.ifNo X102.here hx rfl (hb hby at_394) rfl ((if0 _ _).trans (teq (by decide : (0 : Int32) = (0 : Int32))).2) ?_
                            refine XS.bipush X102.here hx rfl (hb hby at_397) ?_
                            refine XS.istore X102.here hx rfl (hb hby at_399) rfl (l' := #[.val (.int p1), .val (.int p2), .val (.int p3), .val (.int p4), .val (.int p5), .val (.int p6), .val (.int of), .val (.ref b), .val (.int lim), .val (.int av), .val (.int xx), .val (.int b1), .val (.int b2), .val (.int b3), .val (.int (4 : Int32)), .val (.int (128 : Int32)), .val (.int (143 : Int32)), .val (.int (-3 : Int32))]) rfl ?_
                            refine XS.goto X102.here hx rfl (pc0 := 401) (pc' := 453) rfl (hb hby at_401) (by decide) (by decide) ?_
                            exact k
                          refine ⟨T102, _, (4 : Int32), (128 : Int32), (143 : Int32), X102, e102, N102, fun t k => pre109 t ?_⟩
                          have eE : own_E xx.toInt b1.toInt b2.toInt b3.toInt av.toInt = (-3 : Int32) := (lf0_42 (xx.toInt) (b1.toInt) (b2.toInt) (b3.toInt) (av.toInt) r_xx r_b1 r_b2 r_b3 r_av i1 i_hc181_9 i21 i_hc220_34 i46 i_hc259_59 i76 i_hc298_94 i_hc329_96 i98a i98b i_hc373_100 i102)
                          rw [eE] at k
                          exact k
                    · rw [v98] at st98
                      have pre110 : ∀ t, Steps p.tables e below (T98.setTop (mkF m 453 #[.val (.int p1), .val (.int p2), .val (.int p3), .val (.int p4), .val (.int p5), .val (.int p6), .val (.int of), .val (.ref b), .val (.int lim), .val (.int av), .val (.int xx), .val (.int b1), .val (.int b2), .val (.int b3), .val (.int (4 : Int32)), .val (.int (128 : Int32)), .val (.int (143 : Int32)), .val (.int (-2 : Int32))] [])) t → Steps p.tables e below (T0.setTop (mkF m 146 #[.val (.int p1), .val (.int p2), .val (.int p3), .val (.int p4), .val (.int p5), .val (.int p6), .val (.int of), .val (.ref b), .val (.int lim), .val (.int av), .val (.int xx), .val (.int b1), .val (.int b2), .val (.int b3), .unset, .unset, .unset, .unset] [])) t := by
                        intro t k
                        refine pre95 t ?_
                        show Steps p.tables e below (T76.setTop (mkF m 329 #[.val (.int p1), .val (.int p2), .val (.int p3), .val (.int p4), .val (.int p5), .val (.int p6), .val (.int of), .val (.ref b), .val (.int lim), .val (.int av), .val (.int xx), .val (.int b1), .val (.int b2), .val (.int b3), .val (.int (4 : Int32)), .val (.int (128 : Int32)), .val (.int (143 : Int32)), .unset] [(.int (1 : Int32)), (.int av)])) _
                        refine XS.icmpYes X76.here hx rfl (pc0 := 329) (pc' := 339) rfl (hb hby at_329) rfl (flt hc329_96).2.1 (by decide) (by decide) ?_
                        refine XS.iload X76.here hx rfl (hb hby at_339) rfl ?_
                        refine XS.iload X76.here hx rfl (hb hby at_341) rfl ?_
                        refine XS.iload X76.here hx rfl (hb hby at_343) rfl ?_
                        show Steps p.tables e below (T76.setTop (mkF m 345 #[.val (.int p1), .val (.int p2), .val (.int p3), .val (.int p4), .val (.int p5), .val (.int p6), .val (.int of), .val (.ref b), .val (.int lim), .val (.int av), .val (.int xx), .val (.int b1), .val (.int b2), .val (.int b3), .val (.int (4 : Int32)), .val (.int (128 : Int32)), .val (.int (143 : Int32)), .unset] [(.int (143 : Int32)), (.int (128 : Int32)), (.int b1)])) _
                        refine st98 _ ?_
                        show Steps p.tables e below (T98.setTop (mkF m 348 #[.val (.int p1), .val (.int p2), .val (.int p3), .val (.int p4), .val (.int p5), .val (.int p6), .val (.int of), .val (.ref b), .val (.int lim), .val (.int av), .val (.int xx), .val (.int b1), .val (.int b2), .val (.int b3), .val (.int (4 : Int32)), .val (.int (128 : Int32)), .val (.int (143 : Int32)), .unset] [(.int (0 : Int32))])) _
                        refine XS.ifNo X98.here hx rfl (hb hby at_348) rfl ((if0 _ _).trans (teq (by decide : (0 : Int32) = (0 : Int32))).2) ?_
                        refine XS.bipush X98.here hx rfl (hb hby at_351) ?_
                        refine XS.istore X98.here hx rfl (hb hby at_353) rfl (l' := #[.val (.int p1), .val (.int p2), .val (.int p3), .val (.int p4), .val (.int p5), .val (.int p6), .val (.int of), .val (.ref b), .val (.int lim), .val (.int av), .val (.int xx), .val (.int b1), .val (.int b2), .val (.int b3), .val (.int (4 : Int32)), .val (.int (128 : Int32)), .val (.int (143 : Int32)), .val (.int (-2 : Int32))]) rfl ?_
                        refine XS.goto X98.here hx rfl (pc0 := 355) (pc' := 453) rfl (hb hby at_355) (by decide) (by decide) ?_
                        exact k
                      refine ⟨T98, _, (4 : Int32), (128 : Int32), (143 : Int32), X98, e98, N98, fun t k => pre110 t ?_⟩
                      have eE : own_E xx.toInt b1.toInt b2.toInt b3.toInt av.toInt = (-2 : Int32) := (lf0_43 (xx.toInt) (b1.toInt) (b2.toInt) (b3.toInt) (av.toInt) r_xx r_b1 r_b2 r_b3 r_av i1 i_hc181_9 i21 i_hc220_34 i46 i_hc259_59 i76 i_hc298_94 i_hc329_96 i98)
                      rw [eE] at k
                      exact k
                · have i_hc298_94 : ¬ (xx.toInt = (244 : Int32).toInt) := fun q => hc298_94 ((Int32.toInt_inj.symm).mpr q)
                  have pre111 : ∀ t, Steps p.tables e below (T76.setTop (mkF m 453 #[.val (.int p1), .val (.int p2), .val (.int p3), .val (.int p4), .val (.int p5), .val (.int p6), .val (.int of), .val (.ref b), .val (.int lim), .val (.int av), .val (.int xx), .val (.int b1), .val (.int b2), .val (.int b3), .val (.int (-1 : Int32)), .val (.int (128 : Int32)), .val (.int (191 : Int32)), .val (.int (-1 : Int32))] [])) t → Steps p.tables e below (T0.setTop (mkF m 146 #[.val (.int p1), .val (.int p2), .val (.int p3), .val (.int p4), .val (.int p5), .val (.int p6), .val (.int of), .val (.ref b), .val (.int lim), .val (.int av), .val (.int xx), .val (.int b1), .val (.int b2), .val (.int b3), .unset, .unset, .unset, .unset] [])) t := by
                    intro t k
                    refine pre93 t ?_
                    show Steps p.tables e below (T76.setTop (mkF m 298 #[.val (.int p1), .val (.int p2), .val (.int p3), .val (.int p4), .val (.int p5), .val (.int p6), .val (.int of), .val (.ref b), .val (.int lim), .val (.int av), .val (.int xx), .val (.int b1), .val (.int b2), .val (.int b3), .unset, .val (.int (128 : Int32)), .val (.int (191 : Int32)), .unset] [(.int (244 : Int32)), (.int xx)])) _
                    refine XS.icmpYes X76.here hx rfl (pc0 := 298) (pc' := 312) rfl (hb hby at_298) rfl (feq hc298_94).2 (by decide) (by decide) ?_
                    refine XS.iconst X76.here hx rfl (hb hby at_312) ?_
                    refine XS.istore X76.here hx rfl (hb hby at_313) rfl (l' := #[.val (.int p1), .val (.int p2), .val (.int p3), .val (.int p4), .val (.int p5), .val (.int p6), .val (.int of), .val (.ref b), .val (.int lim), .val (.int av), .val (.int xx), .val (.int b1), .val (.int b2), .val (.int b3), .val (.int (-1 : Int32)), .val (.int (128 : Int32)), .val (.int (191 : Int32)), .unset]) rfl ?_
                    refine XS.iload X76.here hx rfl (hb hby at_315) rfl ?_
                    show Steps p.tables e below (T76.setTop (mkF m 317 #[.val (.int p1), .val (.int p2), .val (.int p3), .val (.int p4), .val (.int p5), .val (.int p6), .val (.int of), .val (.ref b), .val (.int lim), .val (.int av), .val (.int xx), .val (.int b1), .val (.int b2), .val (.int b3), .val (.int (-1 : Int32)), .val (.int (128 : Int32)), .val (.int (191 : Int32)), .unset] [(.int (-1 : Int32))])) _
                    refine XS.ifNo X76.here hx rfl (hb hby at_317) rfl ((if0 _ _).trans (tlt (by decide : (-1 : Int32) < (0 : Int32))).2.1) ?_
                    refine XS.iconst X76.here hx rfl (hb hby at_320) ?_
                    refine XS.istore X76.here hx rfl (hb hby at_321) rfl (l' := #[.val (.int p1), .val (.int p2), .val (.int p3), .val (.int p4), .val (.int p5), .val (.int p6), .val (.int of), .val (.ref b), .val (.int lim), .val (.int av), .val (.int xx), .val (.int b1), .val (.int b2), .val (.int b3), .val (.int (-1 : Int32)), .val (.int (128 : Int32)), .val (.int (191 : Int32)), .val (.int (-1 : Int32))]) rfl ?_
                    refine XS.goto X76.here hx rfl (pc0 := 323) (pc' := 453) rfl (hb hby at_323) (by decide) (by decide) ?_
                    exact k
                  refine ⟨T76, _, (-1 : Int32), (128 : Int32), (191 : Int32), X76, e76, N76, fun t k => pre111 t ?_⟩
                  have eE : own_E xx.toInt b1.toInt b2.toInt b3.toInt av.toInt = (-1 : Int32) := (lf0_44 (xx.toInt) (b1.toInt) (b2.toInt) (b3.toInt) (av.toInt) r_xx r_b1 r_b2 r_b3 r_av i1 i_hc181_9 i21 i_hc220_34 i46 i_hc259_59 i76 i_hc298_94)
                  rw [eE] at k
                  exact k
theorem own_nums (p6 : Int32) : (0 ≤ (p6 &&& (1 : Int32)).toInt ∧ (p6 &&& (1 : Int32)).toInt ≤ 1) ∧ ((5 : Int32) - (p6 &&& (1 : Int32))).toInt = 5 - (p6 &&& (1 : Int32)).toInt ∧ (((p6 &&& (1 : Int32)) + (1 : Int32)) + (((p6.toUInt32 >>> ((1 : Int32) &&& 31).toUInt32).toInt32) % ((5 : Int32) - (p6 &&& (1 : Int32))))).toInt ≤ 5 ∧ (((((p6 &&& (1 : Int32)) + (1 : Int32)) + (((p6.toUInt32 >>> ((1 : Int32) &&& 31).toUInt32).toInt32) % ((5 : Int32) - (p6 &&& (1 : Int32))))) - (p6 &&& (1 : Int32))) - (1 : Int32)).toInt = (((p6 &&& (1 : Int32)) + (1 : Int32)) + (((p6.toUInt32 >>> ((1 : Int32) &&& 31).toUInt32).toInt32) % ((5 : Int32) - (p6 &&& (1 : Int32))))).toInt - (p6 &&& (1 : Int32)).toInt - 1 ∧ (0 ≤ (((((p6 &&& (1 : Int32)) + (1 : Int32)) + (((p6.toUInt32 >>> ((1 : Int32) &&& 31).toUInt32).toInt32) % ((5 : Int32) - (p6 &&& (1 : Int32))))) - (p6 &&& (1 : Int32))) - (1 : Int32)).toInt ∧ (((((p6 &&& (1 : Int32)) + (1 : Int32)) + (((p6.toUInt32 >>> ((1 : Int32) &&& 31).toUInt32).toInt32) % ((5 : Int32) - (p6 &&& (1 : Int32))))) - (p6 &&& (1 : Int32))) - (1 : Int32)).toInt < 5) ∧ ((p6 &&& (1 : Int32)) + (1 : Int32)).toInt = (p6 &&& (1 : Int32)).toInt + 1 ∧ ((p6 &&& (1 : Int32)) + (2 : Int32)).toInt = (p6 &&& (1 : Int32)).toInt + 2 ∧ ((p6 &&& (1 : Int32)) + (3 : Int32)).toInt = (p6 &&& (1 : Int32)).toInt + 3 := by
  have h1 := c_mask p6 1 1 (by decide) rfl
  have h2 := c_iushr p6 1 1 rfl (by decide)
  have h3 := c_isub 5 (p6 &&& (1 : Int32))
  have e1 : (1 : Int32).toInt = 1 := rfl
  have e2 : (2 : Int32).toInt = 2 := rfl
  have e3 : (3 : Int32).toInt = 3 := rfl
  have e5 : (5 : Int32).toInt = 5 := rfl
  have h4 := (c_iremV ((p6.toUInt32 >>> ((1 : Int32) &&& 31).toUInt32).toInt32) ((5 : Int32) - (p6 &&& (1 : Int32)))).1
  have h5 := rng32 ((5 : Int32) - (p6 &&& (1 : Int32)))
  have h6 := c_iadd (p6 &&& (1 : Int32)) 1
  have h7 := rng32 ((p6 &&& (1 : Int32)) + (1 : Int32))
  have h8 := c_iadd ((p6 &&& (1 : Int32)) + (1 : Int32)) (((p6.toUInt32 >>> ((1 : Int32) &&& 31).toUInt32).toInt32) % ((5 : Int32) - (p6 &&& (1 : Int32))))
  have h9 := rng32 (((p6 &&& (1 : Int32)) + (1 : Int32)) + (((p6.toUInt32 >>> ((1 : Int32) &&& 31).toUInt32).toInt32) % ((5 : Int32) - (p6 &&& (1 : Int32)))))
  have h10 := c_isub (((p6 &&& (1 : Int32)) + (1 : Int32)) + (((p6.toUInt32 >>> ((1 : Int32) &&& 31).toUInt32).toInt32) % ((5 : Int32) - (p6 &&& (1 : Int32))))) (p6 &&& (1 : Int32))
  have h11 := rng32 ((((p6 &&& (1 : Int32)) + (1 : Int32)) + (((p6.toUInt32 >>> ((1 : Int32) &&& 31).toUInt32).toInt32) % ((5 : Int32) - (p6 &&& (1 : Int32))))) - (p6 &&& (1 : Int32)))
  have h12 := c_isub ((((p6 &&& (1 : Int32)) + (1 : Int32)) + (((p6.toUInt32 >>> ((1 : Int32) &&& 31).toUInt32).toInt32) % ((5 : Int32) - (p6 &&& (1 : Int32))))) - (p6 &&& (1 : Int32))) 1
  have h13 := rng32 (((((p6 &&& (1 : Int32)) + (1 : Int32)) + (((p6.toUInt32 >>> ((1 : Int32) &&& 31).toUInt32).toInt32) % ((5 : Int32) - (p6 &&& (1 : Int32))))) - (p6 &&& (1 : Int32))) - (1 : Int32))
  have h14 := c_iadd (p6 &&& (1 : Int32)) 2
  have h15 := rng32 ((p6 &&& (1 : Int32)) + (2 : Int32))
  have h16 := c_iadd (p6 &&& (1 : Int32)) 3
  have h17 := rng32 ((p6 &&& (1 : Int32)) + (3 : Int32))
  have h18 : ((5 : Int32) - (p6 &&& (1 : Int32))).toInt = 5 - (p6 &&& (1 : Int32)).toInt := by omega
  have h19 := h4 (by omega) (by omega)
  clear h4
  generalize ((p6.toUInt32 >>> ((1 : Int32) &&& 31).toUInt32).toInt32) = ush at *
  refine ⟨by omega, h18, by omega, by omega, by omega, by omega, by omega, by omega⟩
theorem own_nz (p6 : Int32) : ¬ ((5 : Int32) - (p6 &&& (1 : Int32))) = 0 := fun q => by
  have h := own_nums p6
  have e0 : (0 : Int32).toInt = 0 := rfl
  rw [q] at h
  omega
theorem own_byte (x : Int32) : ((nar .byte x.toInt8.toInt32) &&& (255 : Int32)).toInt = (x &&& (255 : Int32)).toInt := by
  have h0 : nar .byte x.toInt8.toInt32 = x.toInt8.toInt32.toInt8.toInt32 := rfl
  have h1 := c_i2b x
  have h2 := c_i2b x.toInt8.toInt32
  have h3 := c_mask x 255 8 (by decide) rfl
  have h4 := c_mask (nar .byte x.toInt8.toInt32) 255 8 (by decide) rfl
  rw [h0] at h4 ⊢
  omega
theorem own_ix {z o : Int32} {k : Nat} (h : z.toInt = o.toInt + k) (h0 : 0 ≤ o.toInt) (h1 : o.toInt + k < 5) : (¬ z < 0 ∧ z < 5) ∧ z.toNatClampNeg = o.toInt.toNat + k := by
  have e5 : (5 : Int32).toInt = 5 := rfl
  have e0 : (0 : Int32).toInt = 0 := rfl
  have q : ¬ z < 0 := fun q => by have := Int32.lt_iff_toInt_lt.mp q; omega
  have := nat_of q
  exact ⟨⟨q, Int32.lt_iff_toInt_lt.mpr (by omega)⟩, by omega⟩
theorem ef_0 (m : MethodId) (x0 : Int32) (x1 : Int32) (x2 : Int32) (x3 : Int32) (x4 : Int32) (x5 : Int32) : entryFrame m #[(.int x0), (.int x1), (.int x2), (.int x3), (.int x4), (.int x5)] maxLocals = mkF m 0 #[.val (.int x0), .val (.int x1), .val (.int x2), .val (.int x3), .val (.int x4), .val (.int x5), .unset, .unset, .unset, .unset, .unset, .unset, .unset, .unset, .unset, .unset, .unset, .unset] [] := by first | (simp [entryFrame, mkF, argsToLocals, Value.category, maxLocals]; done) | rfl
def Q0 (Z : State) (p1 : Int32) (p2 : Int32) (p3 : Int32) (p4 : Int32) (p5 : Int32) (p6 : Int32) (h0 : Heap) (n0 : Nat) (v : Option Value) (h : Heap) (L : List Loc) : Prop := v = some (.int (1 : Int32)) ∧ Fr n0 L
set_option maxRecDepth 65536 in
set_option maxHeartbeats 40000000 in
theorem rm0 (l : Launch) (Z : State) (a0 : Array Value) (hw : ∀ d ∈ tables_1, d.before a0 Z = true) (ws : List Jvm.Cond) (p1 : Int32) (p2 : Int32) (p3 : Int32) (p4 : Int32) (p5 : Int32) (p6 : Int32)  (h0 : Heap) (n0 : Nat) (Z0 : n0 ≤ h0.size)  :
    MetFree l x (head1 (Jvm.Cond.code x code maxLocals ret :: ws) room_1) (fun a U => a = #[(.int p1), (.int p2), (.int p3), (.int p4), (.int p5), (.int p6)] ∧ Z.Warmed39 U.vm ∧ U.heap = h0) (fun _ _ _ _ _ => True) (fun _ U o U' => ∃ v L, o = .returned v ∧ Q0 Z p1 p2 p3 p4 p5 p6 h0 n0 v U'.heap L ∧ FrameEnd U o U' L room_1.cells room_1.slots) := by
  refine MetFree.of_bodySF (plainFor_of_name pn_0) hisR ?_
  intro p e s m args below meth c s₁ Bd hml0 hP hK
  obtain ⟨rfl, hZ, hh⟩ := hP
  have hx := Bd.exec
  have hby := Bd.bytes
  have hml : c.maxLocals = 18 := hml0
  have hown : s.vm.findClass "com/example/kindgen/kindgen/runtime/Utf8CursorSequenceLengthPinLaw" = some m.cls := findClass_of_methodNamed Bd.named
  have X0 : Stand p l e room_1 s m #[(.int p1), (.int p2), (.int p3), (.int p4), (.int p5), (.int p6)] below meth c s₁ [] 0 0 := Stand.of_body Bd
  have e0 : s₁.heap = h0 := by rw [← hh, Bd.state]; rfl
  have N0 := Fr.nil n0
  have pre0 : ∀ t, Steps p.tables e below (s₁.setTop (mkF m 0 #[.val (.int p1), .val (.int p2), .val (.int p3), .val (.int p4), .val (.int p5), .val (.int p6), .unset, .unset, .unset, .unset, .unset, .unset, .unset, .unset, .unset, .unset, .unset, .unset] [])) t → Steps p.tables e below (s₁.setTop (entryFrame m #[(.int p1), (.int p2), (.int p3), (.int p4), (.int p5), (.int p6)] maxLocals)) t := fun t k => castTop (ef_0 m p1 p2 p3 p4 p5 p6) k
  obtain ⟨T1, h1, k1, X1, e1, E1, A1, st1⟩ := newP X0 hx hZ (hw _ (List.mem_of_getElem? (i := 0) rfl)) e0 (g := (mkF m 7 #[.val (.int p1), .val (.int p2), .val (.int p3), .val (.int p4), .val (.int p5), .val (.int p6), .val (.int (p6 &&& (1 : Int32))), .unset, .unset, .unset, .unset, .unset, .unset, .unset, .unset, .unset, .unset, .unset] [(.int (5 : Int32))])) rfl (hb hby at_7) rfl (by decide) (cap := 5) (by decide) (by decide) (by decide) (by decide)
  obtain ⟨b1, g1⟩ : ∃ z, z = h0.size := ⟨_, rfl⟩
  rw [← g1] at A1 st1
  have g_b1 : n0 ≤ b1 := Nat.le_trans Z0 (Nat.le_of_eq g1.symm)
  have Z1 : n0 ≤ h1.size := Nat.le_trans Z0 E1.1
  have V1 : Arv Z h1 b1 k1 .byte (5 : Int32) [(.int (0 : Int32)), (.int (0 : Int32)), (.int (0 : Int32)), (.int (0 : Int32)), (.int (0 : Int32))] (.int (0 : Int32)) := (Arv.new A1 (by decide)).pad (pad_rep [] (.int (0 : Int32)) 5)
  have pre2 : ∀ t, Steps p.tables e below (T1.setTop (mkF m 13 #[.val (.int p1), .val (.int p2), .val (.int p3), .val (.int p4), .val (.int p5), .val (.int p6), .val (.int (p6 &&& (1 : Int32))), .val (.ref b1), .unset, .unset, .unset, .unset, .unset, .unset, .unset, .unset, .unset, .unset] [(.int (p6 &&& (1 : Int32)))])) t → Steps p.tables e below (s₁.setTop (entryFrame m #[(.int p1), (.int p2), (.int p3), (.int p4), (.int p5), (.int p6)] maxLocals)) t := by
    intro t k
    refine pre0 t ?_
    show Steps p.tables e below (s₁.setTop (mkF m 0 #[.val (.int p1), .val (.int p2), .val (.int p3), .val (.int p4), .val (.int p5), .val (.int p6), .unset, .unset, .unset, .unset, .unset, .unset, .unset, .unset, .unset, .unset, .unset, .unset] [])) _
    refine XS.iload X0.here hx rfl (hb hby at_0) rfl ?_
    refine XS.iconst X0.here hx rfl (hb hby at_2) ?_
    refine XS.iand X0.here hx rfl (hb hby at_3) rfl ?_
    refine XS.istore X0.here hx rfl (hb hby at_4) rfl (l' := #[.val (.int p1), .val (.int p2), .val (.int p3), .val (.int p4), .val (.int p5), .val (.int p6), .val (.int (p6 &&& (1 : Int32))), .unset, .unset, .unset, .unset, .unset, .unset, .unset, .unset, .unset, .unset, .unset]) rfl ?_
    show Steps p.tables e below (s₁.setTop (mkF m 6 #[.val (.int p1), .val (.int p2), .val (.int p3), .val (.int p4), .val (.int p5), .val (.int p6), .val (.int (p6 &&& (1 : Int32))), .unset, .unset, .unset, .unset, .unset, .unset, .unset, .unset, .unset, .unset, .unset] [])) _
    refine XS.iconst X0.here hx rfl (hb hby at_6) ?_
    show Steps p.tables e below (s₁.setTop (mkF m 7 #[.val (.int p1), .val (.int p2), .val (.int p3), .val (.int p4), .val (.int p5), .val (.int p6), .val (.int (p6 &&& (1 : Int32))), .unset, .unset, .unset, .unset, .unset, .unset, .unset, .unset, .unset, .unset, .unset] [(.int (5 : Int32))])) _
    refine st1 _ ?_
    show Steps p.tables e below (T1.setTop (mkF m 9 #[.val (.int p1), .val (.int p2), .val (.int p3), .val (.int p4), .val (.int p5), .val (.int p6), .val (.int (p6 &&& (1 : Int32))), .unset, .unset, .unset, .unset, .unset, .unset, .unset, .unset, .unset, .unset, .unset] [(.ref b1)])) _
    refine XS.astore X1.here hx rfl (hb hby at_9) rfl rfl (l' := #[.val (.int p1), .val (.int p2), .val (.int p3), .val (.int p4), .val (.int p5), .val (.int p6), .val (.int (p6 &&& (1 : Int32))), .val (.ref b1), .unset, .unset, .unset, .unset, .unset, .unset, .unset, .unset, .unset, .unset]) rfl ?_
    refine XS.iload X1.here hx rfl (hb hby at_11) rfl ?_
    exact k
  by_cases hc13_3 : (p6 &&& (1 : Int32)) = (0 : Int32)
  · obtain ⟨cl_4, Ar_4, q_4, S_4, N_4, H_4, G_4⟩ := id V1
    have hin_4 : ¬ ((0 : Int32) < 0 ∨ cl_4.slots.size ≤ ((0 : Int32)).toNatClampNeg) := inb_of S_4 ⟨by decide, by decide⟩
    obtain ⟨T5, h5, X5, e5, W5, st5⟩ := stB X1 hx hZ e1 Ar_4 (j := (0 : Int32)) hin_4 (g := (mkF m 25 #[.val (.int p1), .val (.int p2), .val (.int p3), .val (.int p4), .val (.int p5), .val (.int p6), .val (.int (p6 &&& (1 : Int32))), .val (.ref b1), .unset, .unset, .unset, .unset, .unset, .unset, .unset, .unset, .unset, .unset] [(.int ((p1 ||| (128 : Int32)).toInt8.toInt32)), (.int (0 : Int32)), (.ref b1)])) rfl rfl (hb hby at_25)
    have V5 : Arv Z h5 b1 k1 .byte (5 : Int32) [(.int (nar .byte ((p1 ||| (128 : Int32)).toInt8.toInt32))), (.int (0 : Int32)), (.int (0 : Int32)), (.int (0 : Int32)), (.int (0 : Int32))] (.int (0 : Int32)) := Arv.set Ar_4 q_4 S_4 N_4 H_4 G_4 (fits_nar_byte _) W5 0 rfl (Nat.le_of_ble_eq_true rfl)
    have N5 := Fr.snoc X5 N0 g_b1
    have Z5 : n0 ≤ h5.size := Nat.le_trans Z1 (Keep.of_wr W5).1
    obtain ⟨cl_6, Ar_6, q_6, S_6, N_6, H_6, G_6⟩ := id V5
    have hin_6 : ¬ ((1 : Int32) < 0 ∨ cl_6.slots.size ≤ ((1 : Int32)).toNatClampNeg) := inb_of S_6 ⟨by decide, by decide⟩
    obtain ⟨T7, h7, X7, e7, W7, st7⟩ := stB X5 hx hZ e5 Ar_6 (j := (1 : Int32)) hin_6 (g := (mkF m 31 #[.val (.int p1), .val (.int p2), .val (.int p3), .val (.int p4), .val (.int p5), .val (.int p6), .val (.int (p6 &&& (1 : Int32))), .val (.ref b1), .unset, .unset, .unset, .unset, .unset, .unset, .unset, .unset, .unset, .unset] [(.int (p2.toInt8.toInt32)), (.int (1 : Int32)), (.ref b1)])) rfl rfl (hb hby at_31)
    have V7 : Arv Z h7 b1 k1 .byte (5 : Int32) [(.int (nar .byte ((p1 ||| (128 : Int32)).toInt8.toInt32))), (.int (nar .byte (p2.toInt8.toInt32))), (.int (0 : Int32)), (.int (0 : Int32)), (.int (0 : Int32))] (.int (0 : Int32)) := Arv.set Ar_6 q_6 S_6 N_6 H_6 G_6 (fits_nar_byte _) W7 1 rfl (Nat.le_of_ble_eq_true rfl)
    have N7 := Fr.snoc X7 N5 g_b1
    have Z7 : n0 ≤ h7.size := Nat.le_trans Z5 (Keep.of_wr W7).1
    obtain ⟨cl_8, Ar_8, q_8, S_8, N_8, H_8, G_8⟩ := id V7
    have hin_8 : ¬ ((2 : Int32) < 0 ∨ cl_8.slots.size ≤ ((2 : Int32)).toNatClampNeg) := inb_of S_8 ⟨by decide, by decide⟩
    obtain ⟨T9, h9, X9, e9, W9, st9⟩ := stB X7 hx hZ e7 Ar_8 (j := (2 : Int32)) hin_8 (g := (mkF m 37 #[.val (.int p1), .val (.int p2), .val (.int p3), .val (.int p4), .val (.int p5), .val (.int p6), .val (.int (p6 &&& (1 : Int32))), .val (.ref b1), .unset, .unset, .unset, .unset, .unset, .unset, .unset, .unset, .unset, .unset] [(.int (p3.toInt8.toInt32)), (.int (2 : Int32)), (.ref b1)])) rfl rfl (hb hby at_37)
    have V9 : Arv Z h9 b1 k1 .byte (5 : Int32) [(.int (nar .byte ((p1 ||| (128 : Int32)).toInt8.toInt32))), (.int (nar .byte (p2.toInt8.toInt32))), (.int (nar .byte (p3.toInt8.toInt32))), (.int (0 : Int32)), (.int (0 : Int32))] (.int (0 : Int32)) := Arv.set Ar_8 q_8 S_8 N_8 H_8 G_8 (fits_nar_byte _) W9 2 rfl (Nat.le_of_ble_eq_true rfl)
    have N9 := Fr.snoc X9 N7 g_b1
    have Z9 : n0 ≤ h9.size := Nat.le_trans Z7 (Keep.of_wr W9).1
    obtain ⟨cl_10, Ar_10, q_10, S_10, N_10, H_10, G_10⟩ := id V9
    have hin_10 : ¬ ((3 : Int32) < 0 ∨ cl_10.slots.size ≤ ((3 : Int32)).toNatClampNeg) := inb_of S_10 ⟨by decide, by decide⟩
    obtain ⟨T11, h11, X11, e11, W11, st11⟩ := stB X9 hx hZ e9 Ar_10 (j := (3 : Int32)) hin_10 (g := (mkF m 43 #[.val (.int p1), .val (.int p2), .val (.int p3), .val (.int p4), .val (.int p5), .val (.int p6), .val (.int (p6 &&& (1 : Int32))), .val (.ref b1), .unset, .unset, .unset, .unset, .unset, .unset, .unset, .unset, .unset, .unset] [(.int (p4.toInt8.toInt32)), (.int (3 : Int32)), (.ref b1)])) rfl rfl (hb hby at_43)
    have V11 : Arv Z h11 b1 k1 .byte (5 : Int32) [(.int (nar .byte ((p1 ||| (128 : Int32)).toInt8.toInt32))), (.int (nar .byte (p2.toInt8.toInt32))), (.int (nar .byte (p3.toInt8.toInt32))), (.int (nar .byte (p4.toInt8.toInt32))), (.int (0 : Int32))] (.int (0 : Int32)) := Arv.set Ar_10 q_10 S_10 N_10 H_10 G_10 (fits_nar_byte _) W11 3 rfl (Nat.le_of_ble_eq_true rfl)
    have N11 := Fr.snoc X11 N9 g_b1
    have Z11 : n0 ≤ h11.size := Nat.le_trans Z9 (Keep.of_wr W11).1
    obtain ⟨cl_12, Ar_12, q_12, S_12, N_12, H_12, G_12⟩ := id V11
    have hin_12 : ¬ ((4 : Int32) < 0 ∨ cl_12.slots.size ≤ ((4 : Int32)).toNatClampNeg) := inb_of S_12 ⟨by decide, by decide⟩
    obtain ⟨T13, h13, X13, e13, W13, st13⟩ := stB X11 hx hZ e11 Ar_12 (j := (4 : Int32)) hin_12 (g := (mkF m 50 #[.val (.int p1), .val (.int p2), .val (.int p3), .val (.int p4), .val (.int p5), .val (.int p6), .val (.int (p6 &&& (1 : Int32))), .val (.ref b1), .unset, .unset, .unset, .unset, .unset, .unset, .unset, .unset, .unset, .unset] [(.int (p5.toInt8.toInt32)), (.int (4 : Int32)), (.ref b1)])) rfl rfl (hb hby at_50)
    have V13 : Arv Z h13 b1 k1 .byte (5 : Int32) [(.int (nar .byte ((p1 ||| (128 : Int32)).toInt8.toInt32))), (.int (nar .byte (p2.toInt8.toInt32))), (.int (nar .byte (p3.toInt8.toInt32))), (.int (nar .byte (p4.toInt8.toInt32))), (.int (nar .byte (p5.toInt8.toInt32)))] (.int (0 : Int32)) := Arv.set Ar_12 q_12 S_12 N_12 H_12 G_12 (fits_nar_byte _) W13 4 rfl (Nat.le_of_ble_eq_true rfl)
    have N13 := Fr.snoc X13 N11 g_b1
    have Z13 : n0 ≤ h13.size := Nat.le_trans Z11 (Keep.of_wr W13).1
    have pre14 : ∀ t, Steps p.tables e below (T13.setTop (mkF m 146 #[.val (.int p1), .val (.int p2), .val (.int p3), .val (.int p4), .val (.int p5), .val (.int p6), .val (.int (p6 &&& (1 : Int32))), .val (.ref b1), .val (.int (((p6 &&& (1 : Int32)) + (1 : Int32)) + (((p6.toUInt32 >>> ((1 : Int32) &&& 31).toUInt32).toInt32) % ((5 : Int32) - (p6 &&& (1 : Int32)))))), .val (.int (((((p6 &&& (1 : Int32)) + (1 : Int32)) + (((p6.toUInt32 >>> ((1 : Int32) &&& 31).toUInt32).toInt32) % ((5 : Int32) - (p6 &&& (1 : Int32))))) - (p6 &&& (1 : Int32))) - (1 : Int32))), .val (.int ((p1 ||| (128 : Int32)) &&& (255 : Int32))), .val (.int (p2 &&& (255 : Int32))), .val (.int (p3 &&& (255 : Int32))), .val (.int (p4 &&& (255 : Int32))), .unset, .unset, .unset, .unset] [])) t → Steps p.tables e below (s₁.setTop (entryFrame m #[(.int p1), (.int p2), (.int p3), (.int p4), (.int p5), (.int p6)] maxLocals)) t := by
      intro t k
      refine pre2 t ?_
      show Steps p.tables e below (T1.setTop (mkF m 13 #[.val (.int p1), .val (.int p2), .val (.int p3), .val (.int p4), .val (.int p5), .val (.int p6), .val (.int (p6 &&& (1 : Int32))), .val (.ref b1), .unset, .unset, .unset, .unset, .unset, .unset, .unset, .unset, .unset, .unset] [(.int (p6 &&& (1 : Int32)))])) _
      refine XS.ifNo X1.here hx rfl (hb hby at_13) rfl ((if0 _ _).trans (teq hc13_3).2) ?_
      refine XS.aload X1.here hx rfl (hb hby at_16) rfl rfl ?_
      refine XS.iconst X1.here hx rfl (hb hby at_18) ?_
      refine XS.iloadN X1.here hx rfl (hb hby at_19) rfl ?_
      show Steps p.tables e below (T1.setTop (mkF m 20 #[.val (.int p1), .val (.int p2), .val (.int p3), .val (.int p4), .val (.int p5), .val (.int p6), .val (.int (p6 &&& (1 : Int32))), .val (.ref b1), .unset, .unset, .unset, .unset, .unset, .unset, .unset, .unset, .unset, .unset] [(.int p1), (.int (0 : Int32)), (.ref b1)])) _
      refine XS.sipush X1.here hx rfl (hb hby at_20) ?_
      show Steps p.tables e below (T1.setTop (mkF m 23 #[.val (.int p1), .val (.int p2), .val (.int p3), .val (.int p4), .val (.int p5), .val (.int p6), .val (.int (p6 &&& (1 : Int32))), .val (.ref b1), .unset, .unset, .unset, .unset, .unset, .unset, .unset, .unset, .unset, .unset] [(.int (128 : Int32)), (.int p1), (.int (0 : Int32)), (.ref b1)])) _
      refine XS.ior X1.here hx rfl (hb hby at_23) rfl ?_
      show Steps p.tables e below (T1.setTop (mkF m 24 #[.val (.int p1), .val (.int p2), .val (.int p3), .val (.int p4), .val (.int p5), .val (.int p6), .val (.int (p6 &&& (1 : Int32))), .val (.ref b1), .unset, .unset, .unset, .unset, .unset, .unset, .unset, .unset, .unset, .unset] [(.int (p1 ||| (128 : Int32))), (.int (0 : Int32)), (.ref b1)])) _
      refine XS.i2b X1.here hx rfl (hb hby at_24) rfl ?_
      show Steps p.tables e below (T1.setTop (mkF m 25 #[.val (.int p1), .val (.int p2), .val (.int p3), .val (.int p4), .val (.int p5), .val (.int p6), .val (.int (p6 &&& (1 : Int32))), .val (.ref b1), .unset, .unset, .unset, .unset, .unset, .unset, .unset, .unset, .unset, .unset] [(.int ((p1 ||| (128 : Int32)).toInt8.toInt32)), (.int (0 : Int32)), (.ref b1)])) _
      refine st5 _ ?_
      refine XS.aload X5.here hx rfl (hb hby at_26) rfl rfl ?_
      refine XS.iconst X5.here hx rfl (hb hby at_28) ?_
      refine XS.iloadN X5.here hx rfl (hb hby at_29) rfl ?_
      show Steps p.tables e below (T5.setTop (mkF m 30 #[.val (.int p1), .val (.int p2), .val (.int p3), .val (.int p4), .val (.int p5), .val (.int p6), .val (.int (p6 &&& (1 : Int32))), .val (.ref b1), .unset, .unset, .unset, .unset, .unset, .unset, .unset, .unset, .unset, .unset] [(.int p2), (.int (1 : Int32)), (.ref b1)])) _
      refine XS.i2b X5.here hx rfl (hb hby at_30) rfl ?_
      show Steps p.tables e below (T5.setTop (mkF m 31 #[.val (.int p1), .val (.int p2), .val (.int p3), .val (.int p4), .val (.int p5), .val (.int p6), .val (.int (p6 &&& (1 : Int32))), .val (.ref b1), .unset, .unset, .unset, .unset, .unset, .unset, .unset, .unset, .unset, .unset] [(.int (p2.toInt8.toInt32)), (.int (1 : Int32)), (.ref b1)])) _
      refine st7 _ ?_
      refine XS.aload X7.here hx rfl (hb hby at_32) rfl rfl ?_
      refine XS.iconst X7.here hx rfl (hb hby at_34) ?_
      refine XS.iloadN X7.here hx rfl (hb hby at_35) rfl ?_
      show Steps p.tables e below (T7.setTop (mkF m 36 #[.val (.int p1), .val (.int p2), .val (.int p3), .val (.int p4), .val (.int p5), .val (.int p6), .val (.int (p6 &&& (1 : Int32))), .val (.ref b1), .unset, .unset, .unset, .unset, .unset, .unset, .unset, .unset, .unset, .unset] [(.int p3), (.int (2 : Int32)), (.ref b1)])) _
      refine XS.i2b X7.here hx rfl (hb hby at_36) rfl ?_
      show Steps p.tables e below (T7.setTop (mkF m 37 #[.val (.int p1), .val (.int p2), .val (.int p3), .val (.int p4), .val (.int p5), .val (.int p6), .val (.int (p6 &&& (1 : Int32))), .val (.ref b1), .unset, .unset, .unset, .unset, .unset, .unset, .unset, .unset, .unset, .unset] [(.int (p3.toInt8.toInt32)), (.int (2 : Int32)), (.ref b1)])) _
      refine st9 _ ?_
      refine XS.aload X9.here hx rfl (hb hby at_38) rfl rfl ?_
      refine XS.iconst X9.here hx rfl (hb hby at_40) ?_
      refine XS.iloadN X9.here hx rfl (hb hby at_41) rfl ?_
      show Steps p.tables e below (T9.setTop (mkF m 42 #[.val (.int p1), .val (.int p2), .val (.int p3), .val (.int p4), .val (.int p5), .val (.int p6), .val (.int (p6 &&& (1 : Int32))), .val (.ref b1), .unset, .unset, .unset, .unset, .unset, .unset, .unset, .unset, .unset, .unset] [(.int p4), (.int (3 : Int32)), (.ref b1)])) _
      refine XS.i2b X9.here hx rfl (hb hby at_42) rfl ?_
      show Steps p.tables e below (T9.setTop (mkF m 43 #[.val (.int p1), .val (.int p2), .val (.int p3), .val (.int p4), .val (.int p5), .val (.int p6), .val (.int (p6 &&& (1 : Int32))), .val (.ref b1), .unset, .unset, .unset, .unset, .unset, .unset, .unset, .unset, .unset, .unset] [(.int (p4.toInt8.toInt32)), (.int (3 : Int32)), (.ref b1)])) _
      refine st11 _ ?_
      refine XS.aload X11.here hx rfl (hb hby at_44) rfl rfl ?_
      refine XS.iconst X11.here hx rfl (hb hby at_46) ?_
      refine XS.iload X11.here hx rfl (hb hby at_47) rfl ?_
      show Steps p.tables e below (T11.setTop (mkF m 49 #[.val (.int p1), .val (.int p2), .val (.int p3), .val (.int p4), .val (.int p5), .val (.int p6), .val (.int (p6 &&& (1 : Int32))), .val (.ref b1), .unset, .unset, .unset, .unset, .unset, .unset, .unset, .unset, .unset, .unset] [(.int p5), (.int (4 : Int32)), (.ref b1)])) _
      refine XS.i2b X11.here hx rfl (hb hby at_49) rfl ?_
      show Steps p.tables e below (T11.setTop (mkF m 50 #[.val (.int p1), .val (.int p2), .val (.int p3), .val (.int p4), .val (.int p5), .val (.int p6), .val (.int (p6 &&& (1 : Int32))), .val (.ref b1), .unset, .unset, .unset, .unset, .unset, .unset, .unset, .unset, .unset, .unset] [(.int (p5.toInt8.toInt32)), (.int (4 : Int32)), (.ref b1)])) _
      refine st13 _ ?_
      refine XS.goto X13.here hx rfl (pc0 := 51) (pc' := 89) rfl (hb hby at_51) (by decide) (by decide) ?_
      refine XS.iload X13.here hx rfl (hb hby at_89) rfl ?_
      refine XS.iconst X13.here hx rfl (hb hby at_91) ?_
      show Steps p.tables e below (T13.setTop (mkF m 92 #[.val (.int p1), .val (.int p2), .val (.int p3), .val (.int p4), .val (.int p5), .val (.int p6), .val (.int (p6 &&& (1 : Int32))), .val (.ref b1), .unset, .unset, .unset, .unset, .unset, .unset, .unset, .unset, .unset, .unset] [(.int (1 : Int32)), (.int (p6 &&& (1 : Int32)))])) _
      refine XS.iadd X13.here hx rfl (hb hby at_92) rfl ?_
      refine XS.iload X13.here hx rfl (hb hby at_93) rfl ?_
      refine XS.iconst X13.here hx rfl (hb hby at_95) ?_
      show Steps p.tables e below (T13.setTop (mkF m 96 #[.val (.int p1), .val (.int p2), .val (.int p3), .val (.int p4), .val (.int p5), .val (.int p6), .val (.int (p6 &&& (1 : Int32))), .val (.ref b1), .unset, .unset, .unset, .unset, .unset, .unset, .unset, .unset, .unset, .unset] [(.int (1 : Int32)), (.int p6), (.int ((p6 &&& (1 : Int32)) + (1 : Int32)))])) _
      refine XS.iushr X13.here hx rfl (hb hby at_96) rfl ?_
      refine XS.iconst X13.here hx rfl (hb hby at_97) ?_
      refine XS.iload X13.here hx rfl (hb hby at_98) rfl ?_
      show Steps p.tables e below (T13.setTop (mkF m 100 #[.val (.int p1), .val (.int p2), .val (.int p3), .val (.int p4), .val (.int p5), .val (.int p6), .val (.int (p6 &&& (1 : Int32))), .val (.ref b1), .unset, .unset, .unset, .unset, .unset, .unset, .unset, .unset, .unset, .unset] [(.int (p6 &&& (1 : Int32))), (.int (5 : Int32)), (.int ((p6.toUInt32 >>> ((1 : Int32) &&& 31).toUInt32).toInt32)), (.int ((p6 &&& (1 : Int32)) + (1 : Int32)))])) _
      refine XS.isub X13.here hx rfl (hb hby at_100) rfl ?_
      show Steps p.tables e below (T13.setTop (mkF m 101 #[.val (.int p1), .val (.int p2), .val (.int p3), .val (.int p4), .val (.int p5), .val (.int p6), .val (.int (p6 &&& (1 : Int32))), .val (.ref b1), .unset, .unset, .unset, .unset, .unset, .unset, .unset, .unset, .unset, .unset] [(.int ((5 : Int32) - (p6 &&& (1 : Int32)))), (.int ((p6.toUInt32 >>> ((1 : Int32) &&& 31).toUInt32).toInt32)), (.int ((p6 &&& (1 : Int32)) + (1 : Int32)))])) _
      refine iremM (g := (mkF m 101 #[.val (.int p1), .val (.int p2), .val (.int p3), .val (.int p4), .val (.int p5), .val (.int p6), .val (.int (p6 &&& (1 : Int32))), .val (.ref b1), .unset, .unset, .unset, .unset, .unset, .unset, .unset, .unset, .unset, .unset] [(.int ((5 : Int32) - (p6 &&& (1 : Int32)))), (.int ((p6.toUInt32 >>> ((1 : Int32) &&& 31).toUInt32).toInt32)), (.int ((p6 &&& (1 : Int32)) + (1 : Int32)))])) X13 hx rfl (hb hby at_101) rfl (own_nz p6) ?_
      refine XS.iadd X13.here hx rfl (hb hby at_102) rfl ?_
      refine XS.istore X13.here hx rfl (hb hby at_103) rfl (l' := #[.val (.int p1), .val (.int p2), .val (.int p3), .val (.int p4), .val (.int p5), .val (.int p6), .val (.int (p6 &&& (1 : Int32))), .val (.ref b1), .val (.int (((p6 &&& (1 : Int32)) + (1 : Int32)) + (((p6.toUInt32 >>> ((1 : Int32) &&& 31).toUInt32).toInt32) % ((5 : Int32) - (p6 &&& (1 : Int32)))))), .unset, .unset, .unset, .unset, .unset, .unset, .unset, .unset, .unset]) rfl ?_
      refine XS.iload X13.here hx rfl (hb hby at_105) rfl ?_
      show Steps p.tables e below (T13.setTop (mkF m 107 #[.val (.int p1), .val (.int p2), .val (.int p3), .val (.int p4), .val (.int p5), .val (.int p6), .val (.int (p6 &&& (1 : Int32))), .val (.ref b1), .val (.int (((p6 &&& (1 : Int32)) + (1 : Int32)) + (((p6.toUInt32 >>> ((1 : Int32) &&& 31).toUInt32).toInt32) % ((5 : Int32) - (p6 &&& (1 : Int32)))))), .unset, .unset, .unset, .unset, .unset, .unset, .unset, .unset, .unset] [(.int (((p6 &&& (1 : Int32)) + (1 : Int32)) + (((p6.toUInt32 >>> ((1 : Int32) &&& 31).toUInt32).toInt32) % ((5 : Int32) - (p6 &&& (1 : Int32))))))])) _
      refine XS.iload X13.here hx rfl (hb hby at_107) rfl ?_
      show Steps p.tables e below (T13.setTop (mkF m 109 #[.val (.int p1), .val (.int p2), .val (.int p3), .val (.int p4), .val (.int p5), .val (.int p6), .val (.int (p6 &&& (1 : Int32))), .val (.ref b1), .val (.int (((p6 &&& (1 : Int32)) + (1 : Int32)) + (((p6.toUInt32 >>> ((1 : Int32) &&& 31).toUInt32).toInt32) % ((5 : Int32) - (p6 &&& (1 : Int32)))))), .unset, .unset, .unset, .unset, .unset, .unset, .unset, .unset, .unset] [(.int (p6 &&& (1 : Int32))), (.int (((p6 &&& (1 : Int32)) + (1 : Int32)) + (((p6.toUInt32 >>> ((1 : Int32) &&& 31).toUInt32).toInt32) % ((5 : Int32) - (p6 &&& (1 : Int32))))))])) _
      refine XS.isub X13.here hx rfl (hb hby at_109) rfl ?_
      refine XS.iconst X13.here hx rfl (hb hby at_110) ?_
      show Steps p.tables e below (T13.setTop (mkF m 111 #[.val (.int p1), .val (.int p2), .val (.int p3), .val (.int p4), .val (.int p5), .val (.int p6), .val (.int (p6 &&& (1 : Int32))), .val (.ref b1), .val (.int (((p6 &&& (1 : Int32)) + (1 : Int32)) + (((p6.toUInt32 >>> ((1 : Int32) &&& 31).toUInt32).toInt32) % ((5 : Int32) - (p6 &&& (1 : Int32)))))), .unset, .unset, .unset, .unset, .unset, .unset, .unset, .unset, .unset] [(.int (1 : Int32)), (.int ((((p6 &&& (1 : Int32)) + (1 : Int32)) + (((p6.toUInt32 >>> ((1 : Int32) &&& 31).toUInt32).toInt32) % ((5 : Int32) - (p6 &&& (1 : Int32))))) - (p6 &&& (1 : Int32))))])) _
      refine XS.isub X13.here hx rfl (hb hby at_111) rfl ?_
      refine XS.istore X13.here hx rfl (hb hby at_112) rfl (l' := #[.val (.int p1), .val (.int p2), .val (.int p3), .val (.int p4), .val (.int p5), .val (.int p6), .val (.int (p6 &&& (1 : Int32))), .val (.ref b1), .val (.int (((p6 &&& (1 : Int32)) + (1 : Int32)) + (((p6.toUInt32 >>> ((1 : Int32) &&& 31).toUInt32).toInt32) % ((5 : Int32) - (p6 &&& (1 : Int32)))))), .val (.int (((((p6 &&& (1 : Int32)) + (1 : Int32)) + (((p6.toUInt32 >>> ((1 : Int32) &&& 31).toUInt32).toInt32) % ((5 : Int32) - (p6 &&& (1 : Int32))))) - (p6 &&& (1 : Int32))) - (1 : Int32))), .unset, .unset, .unset, .unset, .unset, .unset, .unset, .unset]) rfl ?_
      refine XS.iloadN X13.here hx rfl (hb hby at_114) rfl ?_
      refine XS.sipush X13.here hx rfl (hb hby at_115) ?_
      show Steps p.tables e below (T13.setTop (mkF m 118 #[.val (.int p1), .val (.int p2), .val (.int p3), .val (.int p4), .val (.int p5), .val (.int p6), .val (.int (p6 &&& (1 : Int32))), .val (.ref b1), .val (.int (((p6 &&& (1 : Int32)) + (1 : Int32)) + (((p6.toUInt32 >>> ((1 : Int32) &&& 31).toUInt32).toInt32) % ((5 : Int32) - (p6 &&& (1 : Int32)))))), .val (.int (((((p6 &&& (1 : Int32)) + (1 : Int32)) + (((p6.toUInt32 >>> ((1 : Int32) &&& 31).toUInt32).toInt32) % ((5 : Int32) - (p6 &&& (1 : Int32))))) - (p6 &&& (1 : Int32))) - (1 : Int32))), .unset, .unset, .unset, .unset, .unset, .unset, .unset, .unset] [(.int (128 : Int32)), (.int p1)])) _
      refine XS.ior X13.here hx rfl (hb hby at_118) rfl ?_
      refine XS.sipush X13.here hx rfl (hb hby at_119) ?_
      refine XS.iand X13.here hx rfl (hb hby at_122) rfl ?_
      refine XS.istore X13.here hx rfl (hb hby at_123) rfl (l' := #[.val (.int p1), .val (.int p2), .val (.int p3), .val (.int p4), .val (.int p5), .val (.int p6), .val (.int (p6 &&& (1 : Int32))), .val (.ref b1), .val (.int (((p6 &&& (1 : Int32)) + (1 : Int32)) + (((p6.toUInt32 >>> ((1 : Int32) &&& 31).toUInt32).toInt32) % ((5 : Int32) - (p6 &&& (1 : Int32)))))), .val (.int (((((p6 &&& (1 : Int32)) + (1 : Int32)) + (((p6.toUInt32 >>> ((1 : Int32) &&& 31).toUInt32).toInt32) % ((5 : Int32) - (p6 &&& (1 : Int32))))) - (p6 &&& (1 : Int32))) - (1 : Int32))), .val (.int ((p1 ||| (128 : Int32)) &&& (255 : Int32))), .unset, .unset, .unset, .unset, .unset, .unset, .unset]) rfl ?_
      show Steps p.tables e below (T13.setTop (mkF m 125 #[.val (.int p1), .val (.int p2), .val (.int p3), .val (.int p4), .val (.int p5), .val (.int p6), .val (.int (p6 &&& (1 : Int32))), .val (.ref b1), .val (.int (((p6 &&& (1 : Int32)) + (1 : Int32)) + (((p6.toUInt32 >>> ((1 : Int32) &&& 31).toUInt32).toInt32) % ((5 : Int32) - (p6 &&& (1 : Int32)))))), .val (.int (((((p6 &&& (1 : Int32)) + (1 : Int32)) + (((p6.toUInt32 >>> ((1 : Int32) &&& 31).toUInt32).toInt32) % ((5 : Int32) - (p6 &&& (1 : Int32))))) - (p6 &&& (1 : Int32))) - (1 : Int32))), .val (.int ((p1 ||| (128 : Int32)) &&& (255 : Int32))), .unset, .unset, .unset, .unset, .unset, .unset, .unset] [])) _
      refine XS.iloadN X13.here hx rfl (hb hby at_125) rfl ?_
      refine XS.sipush X13.here hx rfl (hb hby at_126) ?_
      refine XS.iand X13.here hx rfl (hb hby at_129) rfl ?_
      refine XS.istore X13.here hx rfl (hb hby at_130) rfl (l' := #[.val (.int p1), .val (.int p2), .val (.int p3), .val (.int p4), .val (.int p5), .val (.int p6), .val (.int (p6 &&& (1 : Int32))), .val (.ref b1), .val (.int (((p6 &&& (1 : Int32)) + (1 : Int32)) + (((p6.toUInt32 >>> ((1 : Int32) &&& 31).toUInt32).toInt32) % ((5 : Int32) - (p6 &&& (1 : Int32)))))), .val (.int (((((p6 &&& (1 : Int32)) + (1 : Int32)) + (((p6.toUInt32 >>> ((1 : Int32) &&& 31).toUInt32).toInt32) % ((5 : Int32) - (p6 &&& (1 : Int32))))) - (p6 &&& (1 : Int32))) - (1 : Int32))), .val (.int ((p1 ||| (128 : Int32)) &&& (255 : Int32))), .val (.int (p2 &&& (255 : Int32))), .unset, .unset, .unset, .unset, .unset, .unset]) rfl ?_
      show Steps p.tables e below (T13.setTop (mkF m 132 #[.val (.int p1), .val (.int p2), .val (.int p3), .val (.int p4), .val (.int p5), .val (.int p6), .val (.int (p6 &&& (1 : Int32))), .val (.ref b1), .val (.int (((p6 &&& (1 : Int32)) + (1 : Int32)) + (((p6.toUInt32 >>> ((1 : Int32) &&& 31).toUInt32).toInt32) % ((5 : Int32) - (p6 &&& (1 : Int32)))))), .val (.int (((((p6 &&& (1 : Int32)) + (1 : Int32)) + (((p6.toUInt32 >>> ((1 : Int32) &&& 31).toUInt32).toInt32) % ((5 : Int32) - (p6 &&& (1 : Int32))))) - (p6 &&& (1 : Int32))) - (1 : Int32))), .val (.int ((p1 ||| (128 : Int32)) &&& (255 : Int32))), .val (.int (p2 &&& (255 : Int32))), .unset, .unset, .unset, .unset, .unset, .unset] [])) _
      refine XS.iloadN X13.here hx rfl (hb hby at_132) rfl ?_
      refine XS.sipush X13.here hx rfl (hb hby at_133) ?_
      refine XS.iand X13.here hx rfl (hb hby at_136) rfl ?_
      refine XS.istore X13.here hx rfl (hb hby at_137) rfl (l' := #[.val (.int p1), .val (.int p2), .val (.int p3), .val (.int p4), .val (.int p5), .val (.int p6), .val (.int (p6 &&& (1 : Int32))), .val (.ref b1), .val (.int (((p6 &&& (1 : Int32)) + (1 : Int32)) + (((p6.toUInt32 >>> ((1 : Int32) &&& 31).toUInt32).toInt32) % ((5 : Int32) - (p6 &&& (1 : Int32)))))), .val (.int (((((p6 &&& (1 : Int32)) + (1 : Int32)) + (((p6.toUInt32 >>> ((1 : Int32) &&& 31).toUInt32).toInt32) % ((5 : Int32) - (p6 &&& (1 : Int32))))) - (p6 &&& (1 : Int32))) - (1 : Int32))), .val (.int ((p1 ||| (128 : Int32)) &&& (255 : Int32))), .val (.int (p2 &&& (255 : Int32))), .val (.int (p3 &&& (255 : Int32))), .unset, .unset, .unset, .unset, .unset]) rfl ?_
      show Steps p.tables e below (T13.setTop (mkF m 139 #[.val (.int p1), .val (.int p2), .val (.int p3), .val (.int p4), .val (.int p5), .val (.int p6), .val (.int (p6 &&& (1 : Int32))), .val (.ref b1), .val (.int (((p6 &&& (1 : Int32)) + (1 : Int32)) + (((p6.toUInt32 >>> ((1 : Int32) &&& 31).toUInt32).toInt32) % ((5 : Int32) - (p6 &&& (1 : Int32)))))), .val (.int (((((p6 &&& (1 : Int32)) + (1 : Int32)) + (((p6.toUInt32 >>> ((1 : Int32) &&& 31).toUInt32).toInt32) % ((5 : Int32) - (p6 &&& (1 : Int32))))) - (p6 &&& (1 : Int32))) - (1 : Int32))), .val (.int ((p1 ||| (128 : Int32)) &&& (255 : Int32))), .val (.int (p2 &&& (255 : Int32))), .val (.int (p3 &&& (255 : Int32))), .unset, .unset, .unset, .unset, .unset] [])) _
      refine XS.iloadN X13.here hx rfl (hb hby at_139) rfl ?_
      refine XS.sipush X13.here hx rfl (hb hby at_140) ?_
      refine XS.iand X13.here hx rfl (hb hby at_143) rfl ?_
      refine XS.istore X13.here hx rfl (hb hby at_144) rfl (l' := #[.val (.int p1), .val (.int p2), .val (.int p3), .val (.int p4), .val (.int p5), .val (.int p6), .val (.int (p6 &&& (1 : Int32))), .val (.ref b1), .val (.int (((p6 &&& (1 : Int32)) + (1 : Int32)) + (((p6.toUInt32 >>> ((1 : Int32) &&& 31).toUInt32).toInt32) % ((5 : Int32) - (p6 &&& (1 : Int32)))))), .val (.int (((((p6 &&& (1 : Int32)) + (1 : Int32)) + (((p6.toUInt32 >>> ((1 : Int32) &&& 31).toUInt32).toInt32) % ((5 : Int32) - (p6 &&& (1 : Int32))))) - (p6 &&& (1 : Int32))) - (1 : Int32))), .val (.int ((p1 ||| (128 : Int32)) &&& (255 : Int32))), .val (.int (p2 &&& (255 : Int32))), .val (.int (p3 &&& (255 : Int32))), .val (.int (p4 &&& (255 : Int32))), .unset, .unset, .unset, .unset]) rfl ?_
      exact k
    have NM15 := own_nums p6
    have r15_xx : 0 ≤ ((p1 ||| (128 : Int32)) &&& (255 : Int32)).toInt ∧ ((p1 ||| (128 : Int32)) &&& (255 : Int32)).toInt < 256 := by have := c_mask (p1 ||| (128 : Int32)) 255 8 (by decide) rfl; omega
    have r15_b1 : 0 ≤ (p2 &&& (255 : Int32)).toInt ∧ (p2 &&& (255 : Int32)).toInt < 256 := by have := c_mask p2 255 8 (by decide) rfl; omega
    have r15_b2 : 0 ≤ (p3 &&& (255 : Int32)).toInt ∧ (p3 &&& (255 : Int32)).toInt < 256 := by have := c_mask p3 255 8 (by decide) rfl; omega
    have r15_b3 : 0 ≤ (p4 &&& (255 : Int32)).toInt ∧ (p4 &&& (255 : Int32)).toInt < 256 := by have := c_mask p4 255 8 (by decide) rfl; omega
    obtain ⟨T15, Lc15, v14, v15, v16, X15, e15, N15, st15⟩ := seg0 p1 p2 p3 p4 p5 p6 (p6 &&& (1 : Int32)) b1 (((p6 &&& (1 : Int32)) + (1 : Int32)) + (((p6.toUInt32 >>> ((1 : Int32) &&& 31).toUInt32).toInt32) % ((5 : Int32) - (p6 &&& (1 : Int32))))) (((((p6 &&& (1 : Int32)) + (1 : Int32)) + (((p6.toUInt32 >>> ((1 : Int32) &&& 31).toUInt32).toInt32) % ((5 : Int32) - (p6 &&& (1 : Int32))))) - (p6 &&& (1 : Int32))) - (1 : Int32)) ((p1 ||| (128 : Int32)) &&& (255 : Int32)) (p2 &&& (255 : Int32)) (p3 &&& (255 : Int32)) (p4 &&& (255 : Int32)) X13 hx hZ hw hby hml hown e13 Z13 N13 r15_xx r15_b1 r15_b2 r15_b3 NM15.2.2.2.2.1
    have ho16 : (p6 &&& (1 : Int32)).toInt = 0 := by rw [hc13_3]; rfl
    have Vq16 : Arv Z h13 b1 k1 .byte (5 : Int32) [(.int (nar .byte ((p1 ||| (128 : Int32)).toInt8.toInt32))), (.int (nar .byte (p2.toInt8.toInt32))), (.int (nar .byte (p3.toInt8.toInt32))), (.int (nar .byte (p4.toInt8.toInt32))), (.int (nar .byte (p5.toInt8.toInt32)))] (.int (0 : Int32)) := V13
    obtain ⟨cl16, Ar16, -, Sz16, -, Hs16, -⟩ := Vq16
    have ix16_0 := own_ix (z := (p6 &&& (1 : Int32))) (o := (p6 &&& (1 : Int32))) (k := 0) (by omega) (by omega) (by omega)
    have ix16_1 := own_ix (z := ((p6 &&& (1 : Int32)) + (1 : Int32))) (o := (p6 &&& (1 : Int32))) (k := 1) NM15.2.2.2.2.2.1 (by omega) (by omega)
    have ix16_2 := own_ix (z := ((p6 &&& (1 : Int32)) + (2 : Int32))) (o := (p6 &&& (1 : Int32))) (k := 2) NM15.2.2.2.2.2.2.1 (by omega) (by omega)
    have ix16_3 := own_ix (z := ((p6 &&& (1 : Int32)) + (3 : Int32))) (o := (p6 &&& (1 : Int32))) (k := 3) NM15.2.2.2.2.2.2.2 (by omega) (by omega)
    have hin16_0 : ¬ ((p6 &&& (1 : Int32)) < 0 ∨ cl16.slots.size ≤ ((p6 &&& (1 : Int32))).toNatClampNeg) := inb_of Sz16 ix16_0.1
    have hat16_0 : cl16.slots[((p6 &&& (1 : Int32))).toNatClampNeg]? = some (.int (nar .byte ((p1 ||| (128 : Int32)).toInt8.toInt32))) := Hs16.at hin16_0 (by rw [ix16_0.2, ho16]; rfl)
    have hin16_1 : ¬ (((p6 &&& (1 : Int32)) + (1 : Int32)) < 0 ∨ cl16.slots.size ≤ (((p6 &&& (1 : Int32)) + (1 : Int32))).toNatClampNeg) := inb_of Sz16 ix16_1.1
    have hat16_1 : cl16.slots[(((p6 &&& (1 : Int32)) + (1 : Int32))).toNatClampNeg]? = some (.int (nar .byte (p2.toInt8.toInt32))) := Hs16.at hin16_1 (by rw [ix16_1.2, ho16]; rfl)
    have hin16_2 : ¬ (((p6 &&& (1 : Int32)) + (2 : Int32)) < 0 ∨ cl16.slots.size ≤ (((p6 &&& (1 : Int32)) + (2 : Int32))).toNatClampNeg) := inb_of Sz16 ix16_2.1
    have hat16_2 : cl16.slots[(((p6 &&& (1 : Int32)) + (2 : Int32))).toNatClampNeg]? = some (.int (nar .byte (p3.toInt8.toInt32))) := Hs16.at hin16_2 (by rw [ix16_2.2, ho16]; rfl)
    have hin16_3 : ¬ (((p6 &&& (1 : Int32)) + (3 : Int32)) < 0 ∨ cl16.slots.size ≤ (((p6 &&& (1 : Int32)) + (3 : Int32))).toNatClampNeg) := inb_of Sz16 ix16_3.1
    have hat16_3 : cl16.slots[(((p6 &&& (1 : Int32)) + (3 : Int32))).toNatClampNeg]? = some (.int (nar .byte (p4.toInt8.toInt32))) := Hs16.at hin16_3 (by rw [ix16_3.2, ho16]; rfl)
    obtain ⟨_, _, ⟨T17, L17, k17, n17⟩, -, X17, ⟨Lc17, hQ17, l17, y17, z17⟩, st17⟩ := Jvm.LawKit.callS X15 hx (y := (⟨"com/example/kindgen/kindgen/runtime/Utf8Cursor", "sequenceLength", "([BII)I"⟩ : MethodName)) hown (mvT hZ (hw _ (List.mem_of_getElem? (i := 5) rfl))) (mvT hZ (hw _ (List.mem_of_getElem? (i := 6) rfl))) (mvT hZ (hw _ (List.mem_of_getElem? (i := 7) rfl))) (mvT hZ (hw _ (List.mem_of_getElem? (i := 8) rfl))) (by decide) (backOf (W := 0) (rm2 l Z a0 hw [] b1 (p6 &&& (1 : Int32)) (((p6 &&& (1 : Int32)) + (1 : Int32)) + (((p6.toUInt32 >>> ((1 : Int32) &&& 31).toUInt32).toInt32) % ((5 : Int32) - (p6 &&& (1 : Int32))))) cl16 (nar .byte ((p1 ||| (128 : Int32)).toInt8.toInt32)) (nar .byte (p2.toInt8.toInt32)) (nar .byte (p3.toInt8.toInt32)) (nar .byte (p4.toInt8.toInt32)) h13 n0 Z13 Ar16 hin16_0 hat16_0 hin16_1 hat16_1 hin16_2 hat16_2 hin16_3 hat16_3 NM15.2.2.2.2.2.1 NM15.2.2.2.2.2.2.1 NM15.2.2.2.2.2.2.2) hZ (hw _ (List.mem_of_getElem? (i := 8) rfl)) (hw _ (List.mem_of_getElem? (i := 7) rfl)) (by decide) (by decide)) (g := (mkF m 459 #[.val (.int p1), .val (.int p2), .val (.int p3), .val (.int p4), .val (.int p5), .val (.int p6), .val (.int (p6 &&& (1 : Int32))), .val (.ref b1), .val (.int (((p6 &&& (1 : Int32)) + (1 : Int32)) + (((p6.toUInt32 >>> ((1 : Int32) &&& 31).toUInt32).toInt32) % ((5 : Int32) - (p6 &&& (1 : Int32)))))), .val (.int (((((p6 &&& (1 : Int32)) + (1 : Int32)) + (((p6.toUInt32 >>> ((1 : Int32) &&& 31).toUInt32).toInt32) % ((5 : Int32) - (p6 &&& (1 : Int32))))) - (p6 &&& (1 : Int32))) - (1 : Int32))), .val (.int ((p1 ||| (128 : Int32)) &&& (255 : Int32))), .val (.int (p2 &&& (255 : Int32))), .val (.int (p3 &&& (255 : Int32))), .val (.int (p4 &&& (255 : Int32))), .val (.int v14), .val (.int v15), .val (.int v16), .val (.int (own_E ((p1 ||| (128 : Int32)) &&& (255 : Int32)).toInt (p2 &&& (255 : Int32)).toInt (p3 &&& (255 : Int32)).toInt (p4 &&& (255 : Int32)).toInt (((((p6 &&& (1 : Int32)) + (1 : Int32)) + (((p6.toUInt32 >>> ((1 : Int32) &&& 31).toUInt32).toInt32) % ((5 : Int32) - (p6 &&& (1 : Int32))))) - (p6 &&& (1 : Int32))) - (1 : Int32)).toInt))] [(.int (((p6 &&& (1 : Int32)) + (1 : Int32)) + (((p6.toUInt32 >>> ((1 : Int32) &&& 31).toUInt32).toInt32) % ((5 : Int32) - (p6 &&& (1 : Int32)))))), (.int (p6 &&& (1 : Int32))), (.ref b1)])) rfl (by rw [hml]; rfl) (argsL := [(.ref b1), (.int (p6 &&& (1 : Int32))), (.int (((p6 &&& (1 : Int32)) + (1 : Int32)) + (((p6.toUInt32 >>> ((1 : Int32) &&& 31).toUInt32).toInt32) % ((5 : Int32) - (p6 &&& (1 : Int32))))))]) (rest := []) (lenOf pd_1 rfl) rfl (by show 2 * 0 + _ ≤ _; exact Nat.le_of_eq rfl) (hb hby at_459) (fun _ _ => ⟨rfl, e15, (by decide : 1 + 0 ≤ _), (by decide : 5 + 0 ≤ _)⟩)
    dsimp only [Pt.U, Pt.locs, Pt.cells, Pt.slots] at X17 l17 y17 z17 st17 hQ17
    subst l17 y17 z17
    obtain ⟨rfl, N17q, e17⟩ := hQ17
    have N17 := Fr.app N15 N17q
    rw [own_byte, own_byte, own_byte, own_byte, ← NM15.2.2.2.1] at st17
    obtain ⟨fs, hr, hrun, hended, hW, hsame⟩ := X17.leave (v := some (.int (1 : Int32))) (fun h => by rw [Bd.returns] at h; cases h)
    refine ⟨_, _, pre14 _ ?_, hrun, hended, _, _, rfl, ?_, ⟨_, rfl⟩, hW, hsame.mono (by decide) (by decide)⟩
    · show Steps p.tables e below (T13.setTop (mkF m 146 #[.val (.int p1), .val (.int p2), .val (.int p3), .val (.int p4), .val (.int p5), .val (.int p6), .val (.int (p6 &&& (1 : Int32))), .val (.ref b1), .val (.int (((p6 &&& (1 : Int32)) + (1 : Int32)) + (((p6.toUInt32 >>> ((1 : Int32) &&& 31).toUInt32).toInt32) % ((5 : Int32) - (p6 &&& (1 : Int32)))))), .val (.int (((((p6 &&& (1 : Int32)) + (1 : Int32)) + (((p6.toUInt32 >>> ((1 : Int32) &&& 31).toUInt32).toInt32) % ((5 : Int32) - (p6 &&& (1 : Int32))))) - (p6 &&& (1 : Int32))) - (1 : Int32))), .val (.int ((p1 ||| (128 : Int32)) &&& (255 : Int32))), .val (.int (p2 &&& (255 : Int32))), .val (.int (p3 &&& (255 : Int32))), .val (.int (p4 &&& (255 : Int32))), .unset, .unset, .unset, .unset] [])) _
      refine st15 _ ?_
      show Steps p.tables e below (T15.setTop (mkF m 453 #[.val (.int p1), .val (.int p2), .val (.int p3), .val (.int p4), .val (.int p5), .val (.int p6), .val (.int (p6 &&& (1 : Int32))), .val (.ref b1), .val (.int (((p6 &&& (1 : Int32)) + (1 : Int32)) + (((p6.toUInt32 >>> ((1 : Int32) &&& 31).toUInt32).toInt32) % ((5 : Int32) - (p6 &&& (1 : Int32)))))), .val (.int (((((p6 &&& (1 : Int32)) + (1 : Int32)) + (((p6.toUInt32 >>> ((1 : Int32) &&& 31).toUInt32).toInt32) % ((5 : Int32) - (p6 &&& (1 : Int32))))) - (p6 &&& (1 : Int32))) - (1 : Int32))), .val (.int ((p1 ||| (128 : Int32)) &&& (255 : Int32))), .val (.int (p2 &&& (255 : Int32))), .val (.int (p3 &&& (255 : Int32))), .val (.int (p4 &&& (255 : Int32))), .val (.int v14), .val (.int v15), .val (.int v16), .val (.int (own_E ((p1 ||| (128 : Int32)) &&& (255 : Int32)).toInt (p2 &&& (255 : Int32)).toInt (p3 &&& (255 : Int32)).toInt (p4 &&& (255 : Int32)).toInt (((((p6 &&& (1 : Int32)) + (1 : Int32)) + (((p6.toUInt32 >>> ((1 : Int32) &&& 31).toUInt32).toInt32) % ((5 : Int32) - (p6 &&& (1 : Int32))))) - (p6 &&& (1 : Int32))) - (1 : Int32)).toInt))] [])) _
      refine XS.aload X15.here hx rfl (hb hby at_453) rfl rfl ?_
      refine XS.iload X15.here hx rfl (hb hby at_455) rfl ?_
      refine XS.iload X15.here hx rfl (hb hby at_457) rfl ?_
      show Steps p.tables e below (T15.setTop (mkF m 459 #[.val (.int p1), .val (.int p2), .val (.int p3), .val (.int p4), .val (.int p5), .val (.int p6), .val (.int (p6 &&& (1 : Int32))), .val (.ref b1), .val (.int (((p6 &&& (1 : Int32)) + (1 : Int32)) + (((p6.toUInt32 >>> ((1 : Int32) &&& 31).toUInt32).toInt32) % ((5 : Int32) - (p6 &&& (1 : Int32)))))), .val (.int (((((p6 &&& (1 : Int32)) + (1 : Int32)) + (((p6.toUInt32 >>> ((1 : Int32) &&& 31).toUInt32).toInt32) % ((5 : Int32) - (p6 &&& (1 : Int32))))) - (p6 &&& (1 : Int32))) - (1 : Int32))), .val (.int ((p1 ||| (128 : Int32)) &&& (255 : Int32))), .val (.int (p2 &&& (255 : Int32))), .val (.int (p3 &&& (255 : Int32))), .val (.int (p4 &&& (255 : Int32))), .val (.int v14), .val (.int v15), .val (.int v16), .val (.int (own_E ((p1 ||| (128 : Int32)) &&& (255 : Int32)).toInt (p2 &&& (255 : Int32)).toInt (p3 &&& (255 : Int32)).toInt (p4 &&& (255 : Int32)).toInt (((((p6 &&& (1 : Int32)) + (1 : Int32)) + (((p6.toUInt32 >>> ((1 : Int32) &&& 31).toUInt32).toInt32) % ((5 : Int32) - (p6 &&& (1 : Int32))))) - (p6 &&& (1 : Int32))) - (1 : Int32)).toInt))] [(.int (((p6 &&& (1 : Int32)) + (1 : Int32)) + (((p6.toUInt32 >>> ((1 : Int32) &&& 31).toUInt32).toInt32) % ((5 : Int32) - (p6 &&& (1 : Int32)))))), (.int (p6 &&& (1 : Int32))), (.ref b1)])) _
      refine st17 _ ?_
      refine XS.iload X17.here hx rfl (hb hby at_462) rfl ?_
      show Steps p.tables e below (T17.setTop (mkF m 464 #[.val (.int p1), .val (.int p2), .val (.int p3), .val (.int p4), .val (.int p5), .val (.int p6), .val (.int (p6 &&& (1 : Int32))), .val (.ref b1), .val (.int (((p6 &&& (1 : Int32)) + (1 : Int32)) + (((p6.toUInt32 >>> ((1 : Int32) &&& 31).toUInt32).toInt32) % ((5 : Int32) - (p6 &&& (1 : Int32)))))), .val (.int (((((p6 &&& (1 : Int32)) + (1 : Int32)) + (((p6.toUInt32 >>> ((1 : Int32) &&& 31).toUInt32).toInt32) % ((5 : Int32) - (p6 &&& (1 : Int32))))) - (p6 &&& (1 : Int32))) - (1 : Int32))), .val (.int ((p1 ||| (128 : Int32)) &&& (255 : Int32))), .val (.int (p2 &&& (255 : Int32))), .val (.int (p3 &&& (255 : Int32))), .val (.int (p4 &&& (255 : Int32))), .val (.int v14), .val (.int v15), .val (.int v16), .val (.int (own_E ((p1 ||| (128 : Int32)) &&& (255 : Int32)).toInt (p2 &&& (255 : Int32)).toInt (p3 &&& (255 : Int32)).toInt (p4 &&& (255 : Int32)).toInt (((((p6 &&& (1 : Int32)) + (1 : Int32)) + (((p6.toUInt32 >>> ((1 : Int32) &&& 31).toUInt32).toInt32) % ((5 : Int32) - (p6 &&& (1 : Int32))))) - (p6 &&& (1 : Int32))) - (1 : Int32)).toInt))] [(.int (own_E ((p1 ||| (128 : Int32)) &&& (255 : Int32)).toInt (p2 &&& (255 : Int32)).toInt (p3 &&& (255 : Int32)).toInt (p4 &&& (255 : Int32)).toInt (((((p6 &&& (1 : Int32)) + (1 : Int32)) + (((p6.toUInt32 >>> ((1 : Int32) &&& 31).toUInt32).toInt32) % ((5 : Int32) - (p6 &&& (1 : Int32))))) - (p6 &&& (1 : Int32))) - (1 : Int32)).toInt)), (.int (own_E ((p1 ||| (128 : Int32)) &&& (255 : Int32)).toInt (p2 &&& (255 : Int32)).toInt (p3 &&& (255 : Int32)).toInt (p4 &&& (255 : Int32)).toInt (((((p6 &&& (1 : Int32)) + (1 : Int32)) + (((p6.toUInt32 >>> ((1 : Int32) &&& 31).toUInt32).toInt32) % ((5 : Int32) - (p6 &&& (1 : Int32))))) - (p6 &&& (1 : Int32))) - (1 : Int32)).toInt))])) _
      refine XS.icmpNo X17.here hx rfl (hb hby at_464) rfl (teq (rfl : (own_E ((p1 ||| (128 : Int32)) &&& (255 : Int32)).toInt (p2 &&& (255 : Int32)).toInt (p3 &&& (255 : Int32)).toInt (p4 &&& (255 : Int32)).toInt (((((p6 &&& (1 : Int32)) + (1 : Int32)) + (((p6.toUInt32 >>> ((1 : Int32) &&& 31).toUInt32).toInt32) % ((5 : Int32) - (p6 &&& (1 : Int32))))) - (p6 &&& (1 : Int32))) - (1 : Int32)).toInt) = (own_E ((p1 ||| (128 : Int32)) &&& (255 : Int32)).toInt (p2 &&& (255 : Int32)).toInt (p3 &&& (255 : Int32)).toInt (p4 &&& (255 : Int32)).toInt (((((p6 &&& (1 : Int32)) + (1 : Int32)) + (((p6.toUInt32 >>> ((1 : Int32) &&& 31).toUInt32).toInt32) % ((5 : Int32) - (p6 &&& (1 : Int32))))) - (p6 &&& (1 : Int32))) - (1 : Int32)).toInt))).2 ?_
      refine XS.iconst X17.here hx rfl (hb hby at_467) ?_
      refine XS.goto X17.here hx rfl (pc0 := 468) (pc' := 472) rfl (hb hby at_468) (by decide) (by decide) ?_
      show Steps p.tables e below (T17.setTop (mkF m 472 #[.val (.int p1), .val (.int p2), .val (.int p3), .val (.int p4), .val (.int p5), .val (.int p6), .val (.int (p6 &&& (1 : Int32))), .val (.ref b1), .val (.int (((p6 &&& (1 : Int32)) + (1 : Int32)) + (((p6.toUInt32 >>> ((1 : Int32) &&& 31).toUInt32).toInt32) % ((5 : Int32) - (p6 &&& (1 : Int32)))))), .val (.int (((((p6 &&& (1 : Int32)) + (1 : Int32)) + (((p6.toUInt32 >>> ((1 : Int32) &&& 31).toUInt32).toInt32) % ((5 : Int32) - (p6 &&& (1 : Int32))))) - (p6 &&& (1 : Int32))) - (1 : Int32))), .val (.int ((p1 ||| (128 : Int32)) &&& (255 : Int32))), .val (.int (p2 &&& (255 : Int32))), .val (.int (p3 &&& (255 : Int32))), .val (.int (p4 &&& (255 : Int32))), .val (.int v14), .val (.int v15), .val (.int v16), .val (.int (own_E ((p1 ||| (128 : Int32)) &&& (255 : Int32)).toInt (p2 &&& (255 : Int32)).toInt (p3 &&& (255 : Int32)).toInt (p4 &&& (255 : Int32)).toInt (((((p6 &&& (1 : Int32)) + (1 : Int32)) + (((p6.toUInt32 >>> ((1 : Int32) &&& 31).toUInt32).toInt32) % ((5 : Int32) - (p6 &&& (1 : Int32))))) - (p6 &&& (1 : Int32))) - (1 : Int32)).toInt))] [(.int (1 : Int32))])) _
      exact retN X17 hx (t := .boolean) Bd.returns (by simp) (hb hby at_472) hr
    · show Q0 Z p1 p2 p3 p4 p5 p6 h0 n0 _ T17.heap _
      rw [e17]
      exact ⟨rfl, N17⟩
  · obtain ⟨cl_18, Ar_18, q_18, S_18, N_18, H_18, G_18⟩ := id V1
    have hin_18 : ¬ ((0 : Int32) < 0 ∨ cl_18.slots.size ≤ ((0 : Int32)).toNatClampNeg) := inb_of S_18 ⟨by decide, by decide⟩
    obtain ⟨T19, h19, X19, e19, W19, st19⟩ := stB X1 hx hZ e1 Ar_18 (j := (0 : Int32)) hin_18 (g := (mkF m 60 #[.val (.int p1), .val (.int p2), .val (.int p3), .val (.int p4), .val (.int p5), .val (.int p6), .val (.int (p6 &&& (1 : Int32))), .val (.ref b1), .unset, .unset, .unset, .unset, .unset, .unset, .unset, .unset, .unset, .unset] [(.int (p5.toInt8.toInt32)), (.int (0 : Int32)), (.ref b1)])) rfl rfl (hb hby at_60)
    have V19 : Arv Z h19 b1 k1 .byte (5 : Int32) [(.int (nar .byte (p5.toInt8.toInt32))), (.int (0 : Int32)), (.int (0 : Int32)), (.int (0 : Int32)), (.int (0 : Int32))] (.int (0 : Int32)) := Arv.set Ar_18 q_18 S_18 N_18 H_18 G_18 (fits_nar_byte _) W19 0 rfl (Nat.le_of_ble_eq_true rfl)
    have N19 := Fr.snoc X19 N0 g_b1
    have Z19 : n0 ≤ h19.size := Nat.le_trans Z1 (Keep.of_wr W19).1
    obtain ⟨cl_20, Ar_20, q_20, S_20, N_20, H_20, G_20⟩ := id V19
    have hin_20 : ¬ ((1 : Int32) < 0 ∨ cl_20.slots.size ≤ ((1 : Int32)).toNatClampNeg) := inb_of S_20 ⟨by decide, by decide⟩
    obtain ⟨T21, h21, X21, e21, W21, st21⟩ := stB X19 hx hZ e19 Ar_20 (j := (1 : Int32)) hin_20 (g := (mkF m 70 #[.val (.int p1), .val (.int p2), .val (.int p3), .val (.int p4), .val (.int p5), .val (.int p6), .val (.int (p6 &&& (1 : Int32))), .val (.ref b1), .unset, .unset, .unset, .unset, .unset, .unset, .unset, .unset, .unset, .unset] [(.int ((p1 ||| (128 : Int32)).toInt8.toInt32)), (.int (1 : Int32)), (.ref b1)])) rfl rfl (hb hby at_70)
    have V21 : Arv Z h21 b1 k1 .byte (5 : Int32) [(.int (nar .byte (p5.toInt8.toInt32))), (.int (nar .byte ((p1 ||| (128 : Int32)).toInt8.toInt32))), (.int (0 : Int32)), (.int (0 : Int32)), (.int (0 : Int32))] (.int (0 : Int32)) := Arv.set Ar_20 q_20 S_20 N_20 H_20 G_20 (fits_nar_byte _) W21 1 rfl (Nat.le_of_ble_eq_true rfl)
    have N21 := Fr.snoc X21 N19 g_b1
    have Z21 : n0 ≤ h21.size := Nat.le_trans Z19 (Keep.of_wr W21).1
    obtain ⟨cl_22, Ar_22, q_22, S_22, N_22, H_22, G_22⟩ := id V21
    have hin_22 : ¬ ((2 : Int32) < 0 ∨ cl_22.slots.size ≤ ((2 : Int32)).toNatClampNeg) := inb_of S_22 ⟨by decide, by decide⟩
    obtain ⟨T23, h23, X23, e23, W23, st23⟩ := stB X21 hx hZ e21 Ar_22 (j := (2 : Int32)) hin_22 (g := (mkF m 76 #[.val (.int p1), .val (.int p2), .val (.int p3), .val (.int p4), .val (.int p5), .val (.int p6), .val (.int (p6 &&& (1 : Int32))), .val (.ref b1), .unset, .unset, .unset, .unset, .unset, .unset, .unset, .unset, .unset, .unset] [(.int (p2.toInt8.toInt32)), (.int (2 : Int32)), (.ref b1)])) rfl rfl (hb hby at_76)
    have V23 : Arv Z h23 b1 k1 .byte (5 : Int32) [(.int (nar .byte (p5.toInt8.toInt32))), (.int (nar .byte ((p1 ||| (128 : Int32)).toInt8.toInt32))), (.int (nar .byte (p2.toInt8.toInt32))), (.int (0 : Int32)), (.int (0 : Int32))] (.int (0 : Int32)) := Arv.set Ar_22 q_22 S_22 N_22 H_22 G_22 (fits_nar_byte _) W23 2 rfl (Nat.le_of_ble_eq_true rfl)
    have N23 := Fr.snoc X23 N21 g_b1
    have Z23 : n0 ≤ h23.size := Nat.le_trans Z21 (Keep.of_wr W23).1
    obtain ⟨cl_24, Ar_24, q_24, S_24, N_24, H_24, G_24⟩ := id V23
    have hin_24 : ¬ ((3 : Int32) < 0 ∨ cl_24.slots.size ≤ ((3 : Int32)).toNatClampNeg) := inb_of S_24 ⟨by decide, by decide⟩
    obtain ⟨T25, h25, X25, e25, W25, st25⟩ := stB X23 hx hZ e23 Ar_24 (j := (3 : Int32)) hin_24 (g := (mkF m 82 #[.val (.int p1), .val (.int p2), .val (.int p3), .val (.int p4), .val (.int p5), .val (.int p6), .val (.int (p6 &&& (1 : Int32))), .val (.ref b1), .unset, .unset, .unset, .unset, .unset, .unset, .unset, .unset, .unset, .unset] [(.int (p3.toInt8.toInt32)), (.int (3 : Int32)), (.ref b1)])) rfl rfl (hb hby at_82)
    have V25 : Arv Z h25 b1 k1 .byte (5 : Int32) [(.int (nar .byte (p5.toInt8.toInt32))), (.int (nar .byte ((p1 ||| (128 : Int32)).toInt8.toInt32))), (.int (nar .byte (p2.toInt8.toInt32))), (.int (nar .byte (p3.toInt8.toInt32))), (.int (0 : Int32))] (.int (0 : Int32)) := Arv.set Ar_24 q_24 S_24 N_24 H_24 G_24 (fits_nar_byte _) W25 3 rfl (Nat.le_of_ble_eq_true rfl)
    have N25 := Fr.snoc X25 N23 g_b1
    have Z25 : n0 ≤ h25.size := Nat.le_trans Z23 (Keep.of_wr W25).1
    obtain ⟨cl_26, Ar_26, q_26, S_26, N_26, H_26, G_26⟩ := id V25
    have hin_26 : ¬ ((4 : Int32) < 0 ∨ cl_26.slots.size ≤ ((4 : Int32)).toNatClampNeg) := inb_of S_26 ⟨by decide, by decide⟩
    obtain ⟨T27, h27, X27, e27, W27, st27⟩ := stB X25 hx hZ e25 Ar_26 (j := (4 : Int32)) hin_26 (g := (mkF m 88 #[.val (.int p1), .val (.int p2), .val (.int p3), .val (.int p4), .val (.int p5), .val (.int p6), .val (.int (p6 &&& (1 : Int32))), .val (.ref b1), .unset, .unset, .unset, .unset, .unset, .unset, .unset, .unset, .unset, .unset] [(.int (p4.toInt8.toInt32)), (.int (4 : Int32)), (.ref b1)])) rfl rfl (hb hby at_88)
    have V27 : Arv Z h27 b1 k1 .byte (5 : Int32) [(.int (nar .byte (p5.toInt8.toInt32))), (.int (nar .byte ((p1 ||| (128 : Int32)).toInt8.toInt32))), (.int (nar .byte (p2.toInt8.toInt32))), (.int (nar .byte (p3.toInt8.toInt32))), (.int (nar .byte (p4.toInt8.toInt32)))] (.int (0 : Int32)) := Arv.set Ar_26 q_26 S_26 N_26 H_26 G_26 (fits_nar_byte _) W27 4 rfl (Nat.le_of_ble_eq_true rfl)
    have N27 := Fr.snoc X27 N25 g_b1
    have Z27 : n0 ≤ h27.size := Nat.le_trans Z25 (Keep.of_wr W27).1
    have pre28 : ∀ t, Steps p.tables e below (T27.setTop (mkF m 146 #[.val (.int p1), .val (.int p2), .val (.int p3), .val (.int p4), .val (.int p5), .val (.int p6), .val (.int (p6 &&& (1 : Int32))), .val (.ref b1), .val (.int (((p6 &&& (1 : Int32)) + (1 : Int32)) + (((p6.toUInt32 >>> ((1 : Int32) &&& 31).toUInt32).toInt32) % ((5 : Int32) - (p6 &&& (1 : Int32)))))), .val (.int (((((p6 &&& (1 : Int32)) + (1 : Int32)) + (((p6.toUInt32 >>> ((1 : Int32) &&& 31).toUInt32).toInt32) % ((5 : Int32) - (p6 &&& (1 : Int32))))) - (p6 &&& (1 : Int32))) - (1 : Int32))), .val (.int ((p1 ||| (128 : Int32)) &&& (255 : Int32))), .val (.int (p2 &&& (255 : Int32))), .val (.int (p3 &&& (255 : Int32))), .val (.int (p4 &&& (255 : Int32))), .unset, .unset, .unset, .unset] [])) t → Steps p.tables e below (s₁.setTop (entryFrame m #[(.int p1), (.int p2), (.int p3), (.int p4), (.int p5), (.int p6)] maxLocals)) t := by
      intro t k
      refine pre2 t ?_
      show Steps p.tables e below (T1.setTop (mkF m 13 #[.val (.int p1), .val (.int p2), .val (.int p3), .val (.int p4), .val (.int p5), .val (.int p6), .val (.int (p6 &&& (1 : Int32))), .val (.ref b1), .unset, .unset, .unset, .unset, .unset, .unset, .unset, .unset, .unset, .unset] [(.int (p6 &&& (1 : Int32)))])) _
      refine XS.ifYes X1.here hx rfl (pc0 := 13) (pc' := 54) rfl (hb hby at_13) rfl ((if0 _ _).trans (feq hc13_3).2) (by decide) (by decide) ?_
      refine XS.aload X1.here hx rfl (hb hby at_54) rfl rfl ?_
      refine XS.iconst X1.here hx rfl (hb hby at_56) ?_
      refine XS.iload X1.here hx rfl (hb hby at_57) rfl ?_
      show Steps p.tables e below (T1.setTop (mkF m 59 #[.val (.int p1), .val (.int p2), .val (.int p3), .val (.int p4), .val (.int p5), .val (.int p6), .val (.int (p6 &&& (1 : Int32))), .val (.ref b1), .unset, .unset, .unset, .unset, .unset, .unset, .unset, .unset, .unset, .unset] [(.int p5), (.int (0 : Int32)), (.ref b1)])) _
      refine XS.i2b X1.here hx rfl (hb hby at_59) rfl ?_
      show Steps p.tables e below (T1.setTop (mkF m 60 #[.val (.int p1), .val (.int p2), .val (.int p3), .val (.int p4), .val (.int p5), .val (.int p6), .val (.int (p6 &&& (1 : Int32))), .val (.ref b1), .unset, .unset, .unset, .unset, .unset, .unset, .unset, .unset, .unset, .unset] [(.int (p5.toInt8.toInt32)), (.int (0 : Int32)), (.ref b1)])) _
      refine st19 _ ?_
      refine XS.aload X19.here hx rfl (hb hby at_61) rfl rfl ?_
      refine XS.iconst X19.here hx rfl (hb hby at_63) ?_
      refine XS.iloadN X19.here hx rfl (hb hby at_64) rfl ?_
      show Steps p.tables e below (T19.setTop (mkF m 65 #[.val (.int p1), .val (.int p2), .val (.int p3), .val (.int p4), .val (.int p5), .val (.int p6), .val (.int (p6 &&& (1 : Int32))), .val (.ref b1), .unset, .unset, .unset, .unset, .unset, .unset, .unset, .unset, .unset, .unset] [(.int p1), (.int (1 : Int32)), (.ref b1)])) _
      refine XS.sipush X19.here hx rfl (hb hby at_65) ?_
      show Steps p.tables e below (T19.setTop (mkF m 68 #[.val (.int p1), .val (.int p2), .val (.int p3), .val (.int p4), .val (.int p5), .val (.int p6), .val (.int (p6 &&& (1 : Int32))), .val (.ref b1), .unset, .unset, .unset, .unset, .unset, .unset, .unset, .unset, .unset, .unset] [(.int (128 : Int32)), (.int p1), (.int (1 : Int32)), (.ref b1)])) _
      refine XS.ior X19.here hx rfl (hb hby at_68) rfl ?_
      show Steps p.tables e below (T19.setTop (mkF m 69 #[.val (.int p1), .val (.int p2), .val (.int p3), .val (.int p4), .val (.int p5), .val (.int p6), .val (.int (p6 &&& (1 : Int32))), .val (.ref b1), .unset, .unset, .unset, .unset, .unset, .unset, .unset, .unset, .unset, .unset] [(.int (p1 ||| (128 : Int32))), (.int (1 : Int32)), (.ref b1)])) _
      refine XS.i2b X19.here hx rfl (hb hby at_69) rfl ?_
      show Steps p.tables e below (T19.setTop (mkF m 70 #[.val (.int p1), .val (.int p2), .val (.int p3), .val (.int p4), .val (.int p5), .val (.int p6), .val (.int (p6 &&& (1 : Int32))), .val (.ref b1), .unset, .unset, .unset, .unset, .unset, .unset, .unset, .unset, .unset, .unset] [(.int ((p1 ||| (128 : Int32)).toInt8.toInt32)), (.int (1 : Int32)), (.ref b1)])) _
      refine st21 _ ?_
      refine XS.aload X21.here hx rfl (hb hby at_71) rfl rfl ?_
      refine XS.iconst X21.here hx rfl (hb hby at_73) ?_
      refine XS.iloadN X21.here hx rfl (hb hby at_74) rfl ?_
      show Steps p.tables e below (T21.setTop (mkF m 75 #[.val (.int p1), .val (.int p2), .val (.int p3), .val (.int p4), .val (.int p5), .val (.int p6), .val (.int (p6 &&& (1 : Int32))), .val (.ref b1), .unset, .unset, .unset, .unset, .unset, .unset, .unset, .unset, .unset, .unset] [(.int p2), (.int (2 : Int32)), (.ref b1)])) _
      refine XS.i2b X21.here hx rfl (hb hby at_75) rfl ?_
      show Steps p.tables e below (T21.setTop (mkF m 76 #[.val (.int p1), .val (.int p2), .val (.int p3), .val (.int p4), .val (.int p5), .val (.int p6), .val (.int (p6 &&& (1 : Int32))), .val (.ref b1), .unset, .unset, .unset, .unset, .unset, .unset, .unset, .unset, .unset, .unset] [(.int (p2.toInt8.toInt32)), (.int (2 : Int32)), (.ref b1)])) _
      refine st23 _ ?_
      refine XS.aload X23.here hx rfl (hb hby at_77) rfl rfl ?_
      refine XS.iconst X23.here hx rfl (hb hby at_79) ?_
      refine XS.iloadN X23.here hx rfl (hb hby at_80) rfl ?_
      show Steps p.tables e below (T23.setTop (mkF m 81 #[.val (.int p1), .val (.int p2), .val (.int p3), .val (.int p4), .val (.int p5), .val (.int p6), .val (.int (p6 &&& (1 : Int32))), .val (.ref b1), .unset, .unset, .unset, .unset, .unset, .unset, .unset, .unset, .unset, .unset] [(.int p3), (.int (3 : Int32)), (.ref b1)])) _
      refine XS.i2b X23.here hx rfl (hb hby at_81) rfl ?_
      show Steps p.tables e below (T23.setTop (mkF m 82 #[.val (.int p1), .val (.int p2), .val (.int p3), .val (.int p4), .val (.int p5), .val (.int p6), .val (.int (p6 &&& (1 : Int32))), .val (.ref b1), .unset, .unset, .unset, .unset, .unset, .unset, .unset, .unset, .unset, .unset] [(.int (p3.toInt8.toInt32)), (.int (3 : Int32)), (.ref b1)])) _
      refine st25 _ ?_
      refine XS.aload X25.here hx rfl (hb hby at_83) rfl rfl ?_
      refine XS.iconst X25.here hx rfl (hb hby at_85) ?_
      refine XS.iloadN X25.here hx rfl (hb hby at_86) rfl ?_
      show Steps p.tables e below (T25.setTop (mkF m 87 #[.val (.int p1), .val (.int p2), .val (.int p3), .val (.int p4), .val (.int p5), .val (.int p6), .val (.int (p6 &&& (1 : Int32))), .val (.ref b1), .unset, .unset, .unset, .unset, .unset, .unset, .unset, .unset, .unset, .unset] [(.int p4), (.int (4 : Int32)), (.ref b1)])) _
      refine XS.i2b X25.here hx rfl (hb hby at_87) rfl ?_
      show Steps p.tables e below (T25.setTop (mkF m 88 #[.val (.int p1), .val (.int p2), .val (.int p3), .val (.int p4), .val (.int p5), .val (.int p6), .val (.int (p6 &&& (1 : Int32))), .val (.ref b1), .unset, .unset, .unset, .unset, .unset, .unset, .unset, .unset, .unset, .unset] [(.int (p4.toInt8.toInt32)), (.int (4 : Int32)), (.ref b1)])) _
      refine st27 _ ?_
      refine XS.iload X27.here hx rfl (hb hby at_89) rfl ?_
      refine XS.iconst X27.here hx rfl (hb hby at_91) ?_
      refine XS.iadd X27.here hx rfl (hb hby at_92) rfl ?_
      show Steps p.tables e below (T27.setTop (mkF m 93 #[.val (.int p1), .val (.int p2), .val (.int p3), .val (.int p4), .val (.int p5), .val (.int p6), .val (.int (p6 &&& (1 : Int32))), .val (.ref b1), .unset, .unset, .unset, .unset, .unset, .unset, .unset, .unset, .unset, .unset] [(.int ((p6 &&& (1 : Int32)) + (1 : Int32)))])) _
      refine XS.iload X27.here hx rfl (hb hby at_93) rfl ?_
      refine XS.iconst X27.here hx rfl (hb hby at_95) ?_
      show Steps p.tables e below (T27.setTop (mkF m 96 #[.val (.int p1), .val (.int p2), .val (.int p3), .val (.int p4), .val (.int p5), .val (.int p6), .val (.int (p6 &&& (1 : Int32))), .val (.ref b1), .unset, .unset, .unset, .unset, .unset, .unset, .unset, .unset, .unset, .unset] [(.int (1 : Int32)), (.int p6), (.int ((p6 &&& (1 : Int32)) + (1 : Int32)))])) _
      refine XS.iushr X27.here hx rfl (hb hby at_96) rfl ?_
      refine XS.iconst X27.here hx rfl (hb hby at_97) ?_
      refine XS.iload X27.here hx rfl (hb hby at_98) rfl ?_
      show Steps p.tables e below (T27.setTop (mkF m 100 #[.val (.int p1), .val (.int p2), .val (.int p3), .val (.int p4), .val (.int p5), .val (.int p6), .val (.int (p6 &&& (1 : Int32))), .val (.ref b1), .unset, .unset, .unset, .unset, .unset, .unset, .unset, .unset, .unset, .unset] [(.int (p6 &&& (1 : Int32))), (.int (5 : Int32)), (.int ((p6.toUInt32 >>> ((1 : Int32) &&& 31).toUInt32).toInt32)), (.int ((p6 &&& (1 : Int32)) + (1 : Int32)))])) _
      refine XS.isub X27.here hx rfl (hb hby at_100) rfl ?_
      show Steps p.tables e below (T27.setTop (mkF m 101 #[.val (.int p1), .val (.int p2), .val (.int p3), .val (.int p4), .val (.int p5), .val (.int p6), .val (.int (p6 &&& (1 : Int32))), .val (.ref b1), .unset, .unset, .unset, .unset, .unset, .unset, .unset, .unset, .unset, .unset] [(.int ((5 : Int32) - (p6 &&& (1 : Int32)))), (.int ((p6.toUInt32 >>> ((1 : Int32) &&& 31).toUInt32).toInt32)), (.int ((p6 &&& (1 : Int32)) + (1 : Int32)))])) _
      refine iremM (g := (mkF m 101 #[.val (.int p1), .val (.int p2), .val (.int p3), .val (.int p4), .val (.int p5), .val (.int p6), .val (.int (p6 &&& (1 : Int32))), .val (.ref b1), .unset, .unset, .unset, .unset, .unset, .unset, .unset, .unset, .unset, .unset] [(.int ((5 : Int32) - (p6 &&& (1 : Int32)))), (.int ((p6.toUInt32 >>> ((1 : Int32) &&& 31).toUInt32).toInt32)), (.int ((p6 &&& (1 : Int32)) + (1 : Int32)))])) X27 hx rfl (hb hby at_101) rfl (own_nz p6) ?_
      refine XS.iadd X27.here hx rfl (hb hby at_102) rfl ?_
      refine XS.istore X27.here hx rfl (hb hby at_103) rfl (l' := #[.val (.int p1), .val (.int p2), .val (.int p3), .val (.int p4), .val (.int p5), .val (.int p6), .val (.int (p6 &&& (1 : Int32))), .val (.ref b1), .val (.int (((p6 &&& (1 : Int32)) + (1 : Int32)) + (((p6.toUInt32 >>> ((1 : Int32) &&& 31).toUInt32).toInt32) % ((5 : Int32) - (p6 &&& (1 : Int32)))))), .unset, .unset, .unset, .unset, .unset, .unset, .unset, .unset, .unset]) rfl ?_
      refine XS.iload X27.here hx rfl (hb hby at_105) rfl ?_
      show Steps p.tables e below (T27.setTop (mkF m 107 #[.val (.int p1), .val (.int p2), .val (.int p3), .val (.int p4), .val (.int p5), .val (.int p6), .val (.int (p6 &&& (1 : Int32))), .val (.ref b1), .val (.int (((p6 &&& (1 : Int32)) + (1 : Int32)) + (((p6.toUInt32 >>> ((1 : Int32) &&& 31).toUInt32).toInt32) % ((5 : Int32) - (p6 &&& (1 : Int32)))))), .unset, .unset, .unset, .unset, .unset, .unset, .unset, .unset, .unset] [(.int (((p6 &&& (1 : Int32)) + (1 : Int32)) + (((p6.toUInt32 >>> ((1 : Int32) &&& 31).toUInt32).toInt32) % ((5 : Int32) - (p6 &&& (1 : Int32))))))])) _
      refine XS.iload X27.here hx rfl (hb hby at_107) rfl ?_
      show Steps p.tables e below (T27.setTop (mkF m 109 #[.val (.int p1), .val (.int p2), .val (.int p3), .val (.int p4), .val (.int p5), .val (.int p6), .val (.int (p6 &&& (1 : Int32))), .val (.ref b1), .val (.int (((p6 &&& (1 : Int32)) + (1 : Int32)) + (((p6.toUInt32 >>> ((1 : Int32) &&& 31).toUInt32).toInt32) % ((5 : Int32) - (p6 &&& (1 : Int32)))))), .unset, .unset, .unset, .unset, .unset, .unset, .unset, .unset, .unset] [(.int (p6 &&& (1 : Int32))), (.int (((p6 &&& (1 : Int32)) + (1 : Int32)) + (((p6.toUInt32 >>> ((1 : Int32) &&& 31).toUInt32).toInt32) % ((5 : Int32) - (p6 &&& (1 : Int32))))))])) _
      refine XS.isub X27.here hx rfl (hb hby at_109) rfl ?_
      refine XS.iconst X27.here hx rfl (hb hby at_110) ?_
      show Steps p.tables e below (T27.setTop (mkF m 111 #[.val (.int p1), .val (.int p2), .val (.int p3), .val (.int p4), .val (.int p5), .val (.int p6), .val (.int (p6 &&& (1 : Int32))), .val (.ref b1), .val (.int (((p6 &&& (1 : Int32)) + (1 : Int32)) + (((p6.toUInt32 >>> ((1 : Int32) &&& 31).toUInt32).toInt32) % ((5 : Int32) - (p6 &&& (1 : Int32)))))), .unset, .unset, .unset, .unset, .unset, .unset, .unset, .unset, .unset] [(.int (1 : Int32)), (.int ((((p6 &&& (1 : Int32)) + (1 : Int32)) + (((p6.toUInt32 >>> ((1 : Int32) &&& 31).toUInt32).toInt32) % ((5 : Int32) - (p6 &&& (1 : Int32))))) - (p6 &&& (1 : Int32))))])) _
      refine XS.isub X27.here hx rfl (hb hby at_111) rfl ?_
      refine XS.istore X27.here hx rfl (hb hby at_112) rfl (l' := #[.val (.int p1), .val (.int p2), .val (.int p3), .val (.int p4), .val (.int p5), .val (.int p6), .val (.int (p6 &&& (1 : Int32))), .val (.ref b1), .val (.int (((p6 &&& (1 : Int32)) + (1 : Int32)) + (((p6.toUInt32 >>> ((1 : Int32) &&& 31).toUInt32).toInt32) % ((5 : Int32) - (p6 &&& (1 : Int32)))))), .val (.int (((((p6 &&& (1 : Int32)) + (1 : Int32)) + (((p6.toUInt32 >>> ((1 : Int32) &&& 31).toUInt32).toInt32) % ((5 : Int32) - (p6 &&& (1 : Int32))))) - (p6 &&& (1 : Int32))) - (1 : Int32))), .unset, .unset, .unset, .unset, .unset, .unset, .unset, .unset]) rfl ?_
      refine XS.iloadN X27.here hx rfl (hb hby at_114) rfl ?_
      refine XS.sipush X27.here hx rfl (hb hby at_115) ?_
      show Steps p.tables e below (T27.setTop (mkF m 118 #[.val (.int p1), .val (.int p2), .val (.int p3), .val (.int p4), .val (.int p5), .val (.int p6), .val (.int (p6 &&& (1 : Int32))), .val (.ref b1), .val (.int (((p6 &&& (1 : Int32)) + (1 : Int32)) + (((p6.toUInt32 >>> ((1 : Int32) &&& 31).toUInt32).toInt32) % ((5 : Int32) - (p6 &&& (1 : Int32)))))), .val (.int (((((p6 &&& (1 : Int32)) + (1 : Int32)) + (((p6.toUInt32 >>> ((1 : Int32) &&& 31).toUInt32).toInt32) % ((5 : Int32) - (p6 &&& (1 : Int32))))) - (p6 &&& (1 : Int32))) - (1 : Int32))), .unset, .unset, .unset, .unset, .unset, .unset, .unset, .unset] [(.int (128 : Int32)), (.int p1)])) _
      refine XS.ior X27.here hx rfl (hb hby at_118) rfl ?_
      refine XS.sipush X27.here hx rfl (hb hby at_119) ?_
      refine XS.iand X27.here hx rfl (hb hby at_122) rfl ?_
      refine XS.istore X27.here hx rfl (hb hby at_123) rfl (l' := #[.val (.int p1), .val (.int p2), .val (.int p3), .val (.int p4), .val (.int p5), .val (.int p6), .val (.int (p6 &&& (1 : Int32))), .val (.ref b1), .val (.int (((p6 &&& (1 : Int32)) + (1 : Int32)) + (((p6.toUInt32 >>> ((1 : Int32) &&& 31).toUInt32).toInt32) % ((5 : Int32) - (p6 &&& (1 : Int32)))))), .val (.int (((((p6 &&& (1 : Int32)) + (1 : Int32)) + (((p6.toUInt32 >>> ((1 : Int32) &&& 31).toUInt32).toInt32) % ((5 : Int32) - (p6 &&& (1 : Int32))))) - (p6 &&& (1 : Int32))) - (1 : Int32))), .val (.int ((p1 ||| (128 : Int32)) &&& (255 : Int32))), .unset, .unset, .unset, .unset, .unset, .unset, .unset]) rfl ?_
      show Steps p.tables e below (T27.setTop (mkF m 125 #[.val (.int p1), .val (.int p2), .val (.int p3), .val (.int p4), .val (.int p5), .val (.int p6), .val (.int (p6 &&& (1 : Int32))), .val (.ref b1), .val (.int (((p6 &&& (1 : Int32)) + (1 : Int32)) + (((p6.toUInt32 >>> ((1 : Int32) &&& 31).toUInt32).toInt32) % ((5 : Int32) - (p6 &&& (1 : Int32)))))), .val (.int (((((p6 &&& (1 : Int32)) + (1 : Int32)) + (((p6.toUInt32 >>> ((1 : Int32) &&& 31).toUInt32).toInt32) % ((5 : Int32) - (p6 &&& (1 : Int32))))) - (p6 &&& (1 : Int32))) - (1 : Int32))), .val (.int ((p1 ||| (128 : Int32)) &&& (255 : Int32))), .unset, .unset, .unset, .unset, .unset, .unset, .unset] [])) _
      refine XS.iloadN X27.here hx rfl (hb hby at_125) rfl ?_
      refine XS.sipush X27.here hx rfl (hb hby at_126) ?_
      refine XS.iand X27.here hx rfl (hb hby at_129) rfl ?_
      refine XS.istore X27.here hx rfl (hb hby at_130) rfl (l' := #[.val (.int p1), .val (.int p2), .val (.int p3), .val (.int p4), .val (.int p5), .val (.int p6), .val (.int (p6 &&& (1 : Int32))), .val (.ref b1), .val (.int (((p6 &&& (1 : Int32)) + (1 : Int32)) + (((p6.toUInt32 >>> ((1 : Int32) &&& 31).toUInt32).toInt32) % ((5 : Int32) - (p6 &&& (1 : Int32)))))), .val (.int (((((p6 &&& (1 : Int32)) + (1 : Int32)) + (((p6.toUInt32 >>> ((1 : Int32) &&& 31).toUInt32).toInt32) % ((5 : Int32) - (p6 &&& (1 : Int32))))) - (p6 &&& (1 : Int32))) - (1 : Int32))), .val (.int ((p1 ||| (128 : Int32)) &&& (255 : Int32))), .val (.int (p2 &&& (255 : Int32))), .unset, .unset, .unset, .unset, .unset, .unset]) rfl ?_
      show Steps p.tables e below (T27.setTop (mkF m 132 #[.val (.int p1), .val (.int p2), .val (.int p3), .val (.int p4), .val (.int p5), .val (.int p6), .val (.int (p6 &&& (1 : Int32))), .val (.ref b1), .val (.int (((p6 &&& (1 : Int32)) + (1 : Int32)) + (((p6.toUInt32 >>> ((1 : Int32) &&& 31).toUInt32).toInt32) % ((5 : Int32) - (p6 &&& (1 : Int32)))))), .val (.int (((((p6 &&& (1 : Int32)) + (1 : Int32)) + (((p6.toUInt32 >>> ((1 : Int32) &&& 31).toUInt32).toInt32) % ((5 : Int32) - (p6 &&& (1 : Int32))))) - (p6 &&& (1 : Int32))) - (1 : Int32))), .val (.int ((p1 ||| (128 : Int32)) &&& (255 : Int32))), .val (.int (p2 &&& (255 : Int32))), .unset, .unset, .unset, .unset, .unset, .unset] [])) _
      refine XS.iloadN X27.here hx rfl (hb hby at_132) rfl ?_
      refine XS.sipush X27.here hx rfl (hb hby at_133) ?_
      refine XS.iand X27.here hx rfl (hb hby at_136) rfl ?_
      refine XS.istore X27.here hx rfl (hb hby at_137) rfl (l' := #[.val (.int p1), .val (.int p2), .val (.int p3), .val (.int p4), .val (.int p5), .val (.int p6), .val (.int (p6 &&& (1 : Int32))), .val (.ref b1), .val (.int (((p6 &&& (1 : Int32)) + (1 : Int32)) + (((p6.toUInt32 >>> ((1 : Int32) &&& 31).toUInt32).toInt32) % ((5 : Int32) - (p6 &&& (1 : Int32)))))), .val (.int (((((p6 &&& (1 : Int32)) + (1 : Int32)) + (((p6.toUInt32 >>> ((1 : Int32) &&& 31).toUInt32).toInt32) % ((5 : Int32) - (p6 &&& (1 : Int32))))) - (p6 &&& (1 : Int32))) - (1 : Int32))), .val (.int ((p1 ||| (128 : Int32)) &&& (255 : Int32))), .val (.int (p2 &&& (255 : Int32))), .val (.int (p3 &&& (255 : Int32))), .unset, .unset, .unset, .unset, .unset]) rfl ?_
      show Steps p.tables e below (T27.setTop (mkF m 139 #[.val (.int p1), .val (.int p2), .val (.int p3), .val (.int p4), .val (.int p5), .val (.int p6), .val (.int (p6 &&& (1 : Int32))), .val (.ref b1), .val (.int (((p6 &&& (1 : Int32)) + (1 : Int32)) + (((p6.toUInt32 >>> ((1 : Int32) &&& 31).toUInt32).toInt32) % ((5 : Int32) - (p6 &&& (1 : Int32)))))), .val (.int (((((p6 &&& (1 : Int32)) + (1 : Int32)) + (((p6.toUInt32 >>> ((1 : Int32) &&& 31).toUInt32).toInt32) % ((5 : Int32) - (p6 &&& (1 : Int32))))) - (p6 &&& (1 : Int32))) - (1 : Int32))), .val (.int ((p1 ||| (128 : Int32)) &&& (255 : Int32))), .val (.int (p2 &&& (255 : Int32))), .val (.int (p3 &&& (255 : Int32))), .unset, .unset, .unset, .unset, .unset] [])) _
      refine XS.iloadN X27.here hx rfl (hb hby at_139) rfl ?_
      refine XS.sipush X27.here hx rfl (hb hby at_140) ?_
      refine XS.iand X27.here hx rfl (hb hby at_143) rfl ?_
      refine XS.istore X27.here hx rfl (hb hby at_144) rfl (l' := #[.val (.int p1), .val (.int p2), .val (.int p3), .val (.int p4), .val (.int p5), .val (.int p6), .val (.int (p6 &&& (1 : Int32))), .val (.ref b1), .val (.int (((p6 &&& (1 : Int32)) + (1 : Int32)) + (((p6.toUInt32 >>> ((1 : Int32) &&& 31).toUInt32).toInt32) % ((5 : Int32) - (p6 &&& (1 : Int32)))))), .val (.int (((((p6 &&& (1 : Int32)) + (1 : Int32)) + (((p6.toUInt32 >>> ((1 : Int32) &&& 31).toUInt32).toInt32) % ((5 : Int32) - (p6 &&& (1 : Int32))))) - (p6 &&& (1 : Int32))) - (1 : Int32))), .val (.int ((p1 ||| (128 : Int32)) &&& (255 : Int32))), .val (.int (p2 &&& (255 : Int32))), .val (.int (p3 &&& (255 : Int32))), .val (.int (p4 &&& (255 : Int32))), .unset, .unset, .unset, .unset]) rfl ?_
      exact k
    have NM29 := own_nums p6
    have r29_xx : 0 ≤ ((p1 ||| (128 : Int32)) &&& (255 : Int32)).toInt ∧ ((p1 ||| (128 : Int32)) &&& (255 : Int32)).toInt < 256 := by have := c_mask (p1 ||| (128 : Int32)) 255 8 (by decide) rfl; omega
    have r29_b1 : 0 ≤ (p2 &&& (255 : Int32)).toInt ∧ (p2 &&& (255 : Int32)).toInt < 256 := by have := c_mask p2 255 8 (by decide) rfl; omega
    have r29_b2 : 0 ≤ (p3 &&& (255 : Int32)).toInt ∧ (p3 &&& (255 : Int32)).toInt < 256 := by have := c_mask p3 255 8 (by decide) rfl; omega
    have r29_b3 : 0 ≤ (p4 &&& (255 : Int32)).toInt ∧ (p4 &&& (255 : Int32)).toInt < 256 := by have := c_mask p4 255 8 (by decide) rfl; omega
    obtain ⟨T29, Lc29, v14, v15, v16, X29, e29, N29, st29⟩ := seg0 p1 p2 p3 p4 p5 p6 (p6 &&& (1 : Int32)) b1 (((p6 &&& (1 : Int32)) + (1 : Int32)) + (((p6.toUInt32 >>> ((1 : Int32) &&& 31).toUInt32).toInt32) % ((5 : Int32) - (p6 &&& (1 : Int32))))) (((((p6 &&& (1 : Int32)) + (1 : Int32)) + (((p6.toUInt32 >>> ((1 : Int32) &&& 31).toUInt32).toInt32) % ((5 : Int32) - (p6 &&& (1 : Int32))))) - (p6 &&& (1 : Int32))) - (1 : Int32)) ((p1 ||| (128 : Int32)) &&& (255 : Int32)) (p2 &&& (255 : Int32)) (p3 &&& (255 : Int32)) (p4 &&& (255 : Int32)) X27 hx hZ hw hby hml hown e27 Z27 N27 r29_xx r29_b1 r29_b2 r29_b3 NM29.2.2.2.2.1
    have ho30 : (p6 &&& (1 : Int32)).toInt = 1 := by have q1 := NM29.1; have q2 : (p6 &&& (1 : Int32)).toInt ≠ 0 := fun q => hc13_3 (Int32.toInt_inj.mp (by rw [q]; rfl)); omega
    have Vq30 : Arv Z h27 b1 k1 .byte (5 : Int32) [(.int (nar .byte (p5.toInt8.toInt32))), (.int (nar .byte ((p1 ||| (128 : Int32)).toInt8.toInt32))), (.int (nar .byte (p2.toInt8.toInt32))), (.int (nar .byte (p3.toInt8.toInt32))), (.int (nar .byte (p4.toInt8.toInt32)))] (.int (0 : Int32)) := V27
    obtain ⟨cl30, Ar30, -, Sz30, -, Hs30, -⟩ := Vq30
    have ix30_0 := own_ix (z := (p6 &&& (1 : Int32))) (o := (p6 &&& (1 : Int32))) (k := 0) (by omega) (by omega) (by omega)
    have ix30_1 := own_ix (z := ((p6 &&& (1 : Int32)) + (1 : Int32))) (o := (p6 &&& (1 : Int32))) (k := 1) NM29.2.2.2.2.2.1 (by omega) (by omega)
    have ix30_2 := own_ix (z := ((p6 &&& (1 : Int32)) + (2 : Int32))) (o := (p6 &&& (1 : Int32))) (k := 2) NM29.2.2.2.2.2.2.1 (by omega) (by omega)
    have ix30_3 := own_ix (z := ((p6 &&& (1 : Int32)) + (3 : Int32))) (o := (p6 &&& (1 : Int32))) (k := 3) NM29.2.2.2.2.2.2.2 (by omega) (by omega)
    have hin30_0 : ¬ ((p6 &&& (1 : Int32)) < 0 ∨ cl30.slots.size ≤ ((p6 &&& (1 : Int32))).toNatClampNeg) := inb_of Sz30 ix30_0.1
    have hat30_0 : cl30.slots[((p6 &&& (1 : Int32))).toNatClampNeg]? = some (.int (nar .byte ((p1 ||| (128 : Int32)).toInt8.toInt32))) := Hs30.at hin30_0 (by rw [ix30_0.2, ho30]; rfl)
    have hin30_1 : ¬ (((p6 &&& (1 : Int32)) + (1 : Int32)) < 0 ∨ cl30.slots.size ≤ (((p6 &&& (1 : Int32)) + (1 : Int32))).toNatClampNeg) := inb_of Sz30 ix30_1.1
    have hat30_1 : cl30.slots[(((p6 &&& (1 : Int32)) + (1 : Int32))).toNatClampNeg]? = some (.int (nar .byte (p2.toInt8.toInt32))) := Hs30.at hin30_1 (by rw [ix30_1.2, ho30]; rfl)
    have hin30_2 : ¬ (((p6 &&& (1 : Int32)) + (2 : Int32)) < 0 ∨ cl30.slots.size ≤ (((p6 &&& (1 : Int32)) + (2 : Int32))).toNatClampNeg) := inb_of Sz30 ix30_2.1
    have hat30_2 : cl30.slots[(((p6 &&& (1 : Int32)) + (2 : Int32))).toNatClampNeg]? = some (.int (nar .byte (p3.toInt8.toInt32))) := Hs30.at hin30_2 (by rw [ix30_2.2, ho30]; rfl)
    have hin30_3 : ¬ (((p6 &&& (1 : Int32)) + (3 : Int32)) < 0 ∨ cl30.slots.size ≤ (((p6 &&& (1 : Int32)) + (3 : Int32))).toNatClampNeg) := inb_of Sz30 ix30_3.1
    have hat30_3 : cl30.slots[(((p6 &&& (1 : Int32)) + (3 : Int32))).toNatClampNeg]? = some (.int (nar .byte (p4.toInt8.toInt32))) := Hs30.at hin30_3 (by rw [ix30_3.2, ho30]; rfl)
    obtain ⟨_, _, ⟨T31, L31, k31, n31⟩, -, X31, ⟨Lc31, hQ31, l31, y31, z31⟩, st31⟩ := Jvm.LawKit.callS X29 hx (y := (⟨"com/example/kindgen/kindgen/runtime/Utf8Cursor", "sequenceLength", "([BII)I"⟩ : MethodName)) hown (mvT hZ (hw _ (List.mem_of_getElem? (i := 5) rfl))) (mvT hZ (hw _ (List.mem_of_getElem? (i := 6) rfl))) (mvT hZ (hw _ (List.mem_of_getElem? (i := 7) rfl))) (mvT hZ (hw _ (List.mem_of_getElem? (i := 8) rfl))) (by decide) (backOf (W := 0) (rm2 l Z a0 hw [] b1 (p6 &&& (1 : Int32)) (((p6 &&& (1 : Int32)) + (1 : Int32)) + (((p6.toUInt32 >>> ((1 : Int32) &&& 31).toUInt32).toInt32) % ((5 : Int32) - (p6 &&& (1 : Int32))))) cl30 (nar .byte ((p1 ||| (128 : Int32)).toInt8.toInt32)) (nar .byte (p2.toInt8.toInt32)) (nar .byte (p3.toInt8.toInt32)) (nar .byte (p4.toInt8.toInt32)) h27 n0 Z27 Ar30 hin30_0 hat30_0 hin30_1 hat30_1 hin30_2 hat30_2 hin30_3 hat30_3 NM29.2.2.2.2.2.1 NM29.2.2.2.2.2.2.1 NM29.2.2.2.2.2.2.2) hZ (hw _ (List.mem_of_getElem? (i := 8) rfl)) (hw _ (List.mem_of_getElem? (i := 7) rfl)) (by decide) (by decide)) (g := (mkF m 459 #[.val (.int p1), .val (.int p2), .val (.int p3), .val (.int p4), .val (.int p5), .val (.int p6), .val (.int (p6 &&& (1 : Int32))), .val (.ref b1), .val (.int (((p6 &&& (1 : Int32)) + (1 : Int32)) + (((p6.toUInt32 >>> ((1 : Int32) &&& 31).toUInt32).toInt32) % ((5 : Int32) - (p6 &&& (1 : Int32)))))), .val (.int (((((p6 &&& (1 : Int32)) + (1 : Int32)) + (((p6.toUInt32 >>> ((1 : Int32) &&& 31).toUInt32).toInt32) % ((5 : Int32) - (p6 &&& (1 : Int32))))) - (p6 &&& (1 : Int32))) - (1 : Int32))), .val (.int ((p1 ||| (128 : Int32)) &&& (255 : Int32))), .val (.int (p2 &&& (255 : Int32))), .val (.int (p3 &&& (255 : Int32))), .val (.int (p4 &&& (255 : Int32))), .val (.int v14), .val (.int v15), .val (.int v16), .val (.int (own_E ((p1 ||| (128 : Int32)) &&& (255 : Int32)).toInt (p2 &&& (255 : Int32)).toInt (p3 &&& (255 : Int32)).toInt (p4 &&& (255 : Int32)).toInt (((((p6 &&& (1 : Int32)) + (1 : Int32)) + (((p6.toUInt32 >>> ((1 : Int32) &&& 31).toUInt32).toInt32) % ((5 : Int32) - (p6 &&& (1 : Int32))))) - (p6 &&& (1 : Int32))) - (1 : Int32)).toInt))] [(.int (((p6 &&& (1 : Int32)) + (1 : Int32)) + (((p6.toUInt32 >>> ((1 : Int32) &&& 31).toUInt32).toInt32) % ((5 : Int32) - (p6 &&& (1 : Int32)))))), (.int (p6 &&& (1 : Int32))), (.ref b1)])) rfl (by rw [hml]; rfl) (argsL := [(.ref b1), (.int (p6 &&& (1 : Int32))), (.int (((p6 &&& (1 : Int32)) + (1 : Int32)) + (((p6.toUInt32 >>> ((1 : Int32) &&& 31).toUInt32).toInt32) % ((5 : Int32) - (p6 &&& (1 : Int32))))))]) (rest := []) (lenOf pd_1 rfl) rfl (by show 2 * 0 + _ ≤ _; exact Nat.le_of_eq rfl) (hb hby at_459) (fun _ _ => ⟨rfl, e29, (by decide : 1 + 0 ≤ _), (by decide : 5 + 0 ≤ _)⟩)
    dsimp only [Pt.U, Pt.locs, Pt.cells, Pt.slots] at X31 l31 y31 z31 st31 hQ31
    subst l31 y31 z31
    obtain ⟨rfl, N31q, e31⟩ := hQ31
    have N31 := Fr.app N29 N31q
    rw [own_byte, own_byte, own_byte, own_byte, ← NM29.2.2.2.1] at st31
    obtain ⟨fs, hr, hrun, hended, hW, hsame⟩ := X31.leave (v := some (.int (1 : Int32))) (fun h => by rw [Bd.returns] at h; cases h)
    refine ⟨_, _, pre28 _ ?_, hrun, hended, _, _, rfl, ?_, ⟨_, rfl⟩, hW, hsame.mono (by decide) (by decide)⟩
    · show Steps p.tables e below (T27.setTop (mkF m 146 #[.val (.int p1), .val (.int p2), .val (.int p3), .val (.int p4), .val (.int p5), .val (.int p6), .val (.int (p6 &&& (1 : Int32))), .val (.ref b1), .val (.int (((p6 &&& (1 : Int32)) + (1 : Int32)) + (((p6.toUInt32 >>> ((1 : Int32) &&& 31).toUInt32).toInt32) % ((5 : Int32) - (p6 &&& (1 : Int32)))))), .val (.int (((((p6 &&& (1 : Int32)) + (1 : Int32)) + (((p6.toUInt32 >>> ((1 : Int32) &&& 31).toUInt32).toInt32) % ((5 : Int32) - (p6 &&& (1 : Int32))))) - (p6 &&& (1 : Int32))) - (1 : Int32))), .val (.int ((p1 ||| (128 : Int32)) &&& (255 : Int32))), .val (.int (p2 &&& (255 : Int32))), .val (.int (p3 &&& (255 : Int32))), .val (.int (p4 &&& (255 : Int32))), .unset, .unset, .unset, .unset] [])) _
      refine st29 _ ?_
      show Steps p.tables e below (T29.setTop (mkF m 453 #[.val (.int p1), .val (.int p2), .val (.int p3), .val (.int p4), .val (.int p5), .val (.int p6), .val (.int (p6 &&& (1 : Int32))), .val (.ref b1), .val (.int (((p6 &&& (1 : Int32)) + (1 : Int32)) + (((p6.toUInt32 >>> ((1 : Int32) &&& 31).toUInt32).toInt32) % ((5 : Int32) - (p6 &&& (1 : Int32)))))), .val (.int (((((p6 &&& (1 : Int32)) + (1 : Int32)) + (((p6.toUInt32 >>> ((1 : Int32) &&& 31).toUInt32).toInt32) % ((5 : Int32) - (p6 &&& (1 : Int32))))) - (p6 &&& (1 : Int32))) - (1 : Int32))), .val (.int ((p1 ||| (128 : Int32)) &&& (255 : Int32))), .val (.int (p2 &&& (255 : Int32))), .val (.int (p3 &&& (255 : Int32))), .val (.int (p4 &&& (255 : Int32))), .val (.int v14), .val (.int v15), .val (.int v16), .val (.int (own_E ((p1 ||| (128 : Int32)) &&& (255 : Int32)).toInt (p2 &&& (255 : Int32)).toInt (p3 &&& (255 : Int32)).toInt (p4 &&& (255 : Int32)).toInt (((((p6 &&& (1 : Int32)) + (1 : Int32)) + (((p6.toUInt32 >>> ((1 : Int32) &&& 31).toUInt32).toInt32) % ((5 : Int32) - (p6 &&& (1 : Int32))))) - (p6 &&& (1 : Int32))) - (1 : Int32)).toInt))] [])) _
      refine XS.aload X29.here hx rfl (hb hby at_453) rfl rfl ?_
      refine XS.iload X29.here hx rfl (hb hby at_455) rfl ?_
      refine XS.iload X29.here hx rfl (hb hby at_457) rfl ?_
      show Steps p.tables e below (T29.setTop (mkF m 459 #[.val (.int p1), .val (.int p2), .val (.int p3), .val (.int p4), .val (.int p5), .val (.int p6), .val (.int (p6 &&& (1 : Int32))), .val (.ref b1), .val (.int (((p6 &&& (1 : Int32)) + (1 : Int32)) + (((p6.toUInt32 >>> ((1 : Int32) &&& 31).toUInt32).toInt32) % ((5 : Int32) - (p6 &&& (1 : Int32)))))), .val (.int (((((p6 &&& (1 : Int32)) + (1 : Int32)) + (((p6.toUInt32 >>> ((1 : Int32) &&& 31).toUInt32).toInt32) % ((5 : Int32) - (p6 &&& (1 : Int32))))) - (p6 &&& (1 : Int32))) - (1 : Int32))), .val (.int ((p1 ||| (128 : Int32)) &&& (255 : Int32))), .val (.int (p2 &&& (255 : Int32))), .val (.int (p3 &&& (255 : Int32))), .val (.int (p4 &&& (255 : Int32))), .val (.int v14), .val (.int v15), .val (.int v16), .val (.int (own_E ((p1 ||| (128 : Int32)) &&& (255 : Int32)).toInt (p2 &&& (255 : Int32)).toInt (p3 &&& (255 : Int32)).toInt (p4 &&& (255 : Int32)).toInt (((((p6 &&& (1 : Int32)) + (1 : Int32)) + (((p6.toUInt32 >>> ((1 : Int32) &&& 31).toUInt32).toInt32) % ((5 : Int32) - (p6 &&& (1 : Int32))))) - (p6 &&& (1 : Int32))) - (1 : Int32)).toInt))] [(.int (((p6 &&& (1 : Int32)) + (1 : Int32)) + (((p6.toUInt32 >>> ((1 : Int32) &&& 31).toUInt32).toInt32) % ((5 : Int32) - (p6 &&& (1 : Int32)))))), (.int (p6 &&& (1 : Int32))), (.ref b1)])) _
      refine st31 _ ?_
      refine XS.iload X31.here hx rfl (hb hby at_462) rfl ?_
      show Steps p.tables e below (T31.setTop (mkF m 464 #[.val (.int p1), .val (.int p2), .val (.int p3), .val (.int p4), .val (.int p5), .val (.int p6), .val (.int (p6 &&& (1 : Int32))), .val (.ref b1), .val (.int (((p6 &&& (1 : Int32)) + (1 : Int32)) + (((p6.toUInt32 >>> ((1 : Int32) &&& 31).toUInt32).toInt32) % ((5 : Int32) - (p6 &&& (1 : Int32)))))), .val (.int (((((p6 &&& (1 : Int32)) + (1 : Int32)) + (((p6.toUInt32 >>> ((1 : Int32) &&& 31).toUInt32).toInt32) % ((5 : Int32) - (p6 &&& (1 : Int32))))) - (p6 &&& (1 : Int32))) - (1 : Int32))), .val (.int ((p1 ||| (128 : Int32)) &&& (255 : Int32))), .val (.int (p2 &&& (255 : Int32))), .val (.int (p3 &&& (255 : Int32))), .val (.int (p4 &&& (255 : Int32))), .val (.int v14), .val (.int v15), .val (.int v16), .val (.int (own_E ((p1 ||| (128 : Int32)) &&& (255 : Int32)).toInt (p2 &&& (255 : Int32)).toInt (p3 &&& (255 : Int32)).toInt (p4 &&& (255 : Int32)).toInt (((((p6 &&& (1 : Int32)) + (1 : Int32)) + (((p6.toUInt32 >>> ((1 : Int32) &&& 31).toUInt32).toInt32) % ((5 : Int32) - (p6 &&& (1 : Int32))))) - (p6 &&& (1 : Int32))) - (1 : Int32)).toInt))] [(.int (own_E ((p1 ||| (128 : Int32)) &&& (255 : Int32)).toInt (p2 &&& (255 : Int32)).toInt (p3 &&& (255 : Int32)).toInt (p4 &&& (255 : Int32)).toInt (((((p6 &&& (1 : Int32)) + (1 : Int32)) + (((p6.toUInt32 >>> ((1 : Int32) &&& 31).toUInt32).toInt32) % ((5 : Int32) - (p6 &&& (1 : Int32))))) - (p6 &&& (1 : Int32))) - (1 : Int32)).toInt)), (.int (own_E ((p1 ||| (128 : Int32)) &&& (255 : Int32)).toInt (p2 &&& (255 : Int32)).toInt (p3 &&& (255 : Int32)).toInt (p4 &&& (255 : Int32)).toInt (((((p6 &&& (1 : Int32)) + (1 : Int32)) + (((p6.toUInt32 >>> ((1 : Int32) &&& 31).toUInt32).toInt32) % ((5 : Int32) - (p6 &&& (1 : Int32))))) - (p6 &&& (1 : Int32))) - (1 : Int32)).toInt))])) _
      refine XS.icmpNo X31.here hx rfl (hb hby at_464) rfl (teq (rfl : (own_E ((p1 ||| (128 : Int32)) &&& (255 : Int32)).toInt (p2 &&& (255 : Int32)).toInt (p3 &&& (255 : Int32)).toInt (p4 &&& (255 : Int32)).toInt (((((p6 &&& (1 : Int32)) + (1 : Int32)) + (((p6.toUInt32 >>> ((1 : Int32) &&& 31).toUInt32).toInt32) % ((5 : Int32) - (p6 &&& (1 : Int32))))) - (p6 &&& (1 : Int32))) - (1 : Int32)).toInt) = (own_E ((p1 ||| (128 : Int32)) &&& (255 : Int32)).toInt (p2 &&& (255 : Int32)).toInt (p3 &&& (255 : Int32)).toInt (p4 &&& (255 : Int32)).toInt (((((p6 &&& (1 : Int32)) + (1 : Int32)) + (((p6.toUInt32 >>> ((1 : Int32) &&& 31).toUInt32).toInt32) % ((5 : Int32) - (p6 &&& (1 : Int32))))) - (p6 &&& (1 : Int32))) - (1 : Int32)).toInt))).2 ?_
      refine XS.iconst X31.here hx rfl (hb hby at_467) ?_
      refine XS.goto X31.here hx rfl (pc0 := 468) (pc' := 472) rfl (hb hby at_468) (by decide) (by decide) ?_
      show Steps p.tables e below (T31.setTop (mkF m 472 #[.val (.int p1), .val (.int p2), .val (.int p3), .val (.int p4), .val (.int p5), .val (.int p6), .val (.int (p6 &&& (1 : Int32))), .val (.ref b1), .val (.int (((p6 &&& (1 : Int32)) + (1 : Int32)) + (((p6.toUInt32 >>> ((1 : Int32) &&& 31).toUInt32).toInt32) % ((5 : Int32) - (p6 &&& (1 : Int32)))))), .val (.int (((((p6 &&& (1 : Int32)) + (1 : Int32)) + (((p6.toUInt32 >>> ((1 : Int32) &&& 31).toUInt32).toInt32) % ((5 : Int32) - (p6 &&& (1 : Int32))))) - (p6 &&& (1 : Int32))) - (1 : Int32))), .val (.int ((p1 ||| (128 : Int32)) &&& (255 : Int32))), .val (.int (p2 &&& (255 : Int32))), .val (.int (p3 &&& (255 : Int32))), .val (.int (p4 &&& (255 : Int32))), .val (.int v14), .val (.int v15), .val (.int v16), .val (.int (own_E ((p1 ||| (128 : Int32)) &&& (255 : Int32)).toInt (p2 &&& (255 : Int32)).toInt (p3 &&& (255 : Int32)).toInt (p4 &&& (255 : Int32)).toInt (((((p6 &&& (1 : Int32)) + (1 : Int32)) + (((p6.toUInt32 >>> ((1 : Int32) &&& 31).toUInt32).toInt32) % ((5 : Int32) - (p6 &&& (1 : Int32))))) - (p6 &&& (1 : Int32))) - (1 : Int32)).toInt))] [(.int (1 : Int32))])) _
      exact retN X31 hx (t := .boolean) Bd.returns (by simp) (hb hby at_472) hr
    · show Q0 Z p1 p2 p3 p4 p5 p6 h0 n0 _ T31.heap _
      rw [e31]
      exact ⟨rfl, N31⟩
set_option maxRecDepth 65536 in
set_option maxHeartbeats 40000000 in
theorem comes_1 {Post : Tables → Env → Array Value → State → Outcome → State → Prop} (hpost : ∀ tb e args s v u, (limb_1_1.after args s (.returned v) u = true ∧ limb_1_2.after args s (.returned v) u = true ∧ True) → FrameEnd s (.returned v) u (Jvm.fieldLocs frame_1_writes args s ++ Jvm.arrayLocs frame_1_arrays args s ++ Jvm.staticLocs frame_1_statics s) 16 128 → Post tb e args s (.returned v) u) :
    ArmFor flags0 classFile x code maxLocals ret World_1 tables_1 room_1 Calls_1 rest_1 Pre_1 Post := by
  intro l hfl _ _ p e ha hc hk s m args below hf hA hF happ hP
  obtain ⟨hcalls, hrest, hpre⟩ := hP
  obtain ⟨-, -, -, hnamed, -, -, -, hat⟩ := (Spec.applies_iff hf).mp happ
  obtain ⟨hg, hn⟩ := and_e (Cond.before_iff.mp (show (Jvm.Cond.and given_1 narrow_1).before args s = true from hpre))
  obtain ⟨g0, gr0⟩ := and_e hg
  obtain ⟨g1, gr1⟩ := and_e gr0
  obtain ⟨g2, gr2⟩ := and_e gr1
  obtain ⟨g3, gr3⟩ := and_e gr2
  obtain ⟨g4, gr4⟩ := and_e gr3
  obtain ⟨g5, g6⟩ := and_e gr4
  obtain ⟨w0, w1, w2, w3, w4, w5, rfl⟩ : ∃ w0 w1 w2 w3 w4 w5 : Value, args = #[w0, w1, w2, w3, w4, w5] := by
    have hs : args.size = 6 := by simpa [Cond.value, given_1] using g0
    obtain ⟨L⟩ := args
    match L, hs with
    | [w0, w1, w2, w3, w4, w5], _ => exact ⟨w0, w1, w2, w3, w4, w5, rfl⟩
  have hw := fun d (hd : d ∈ tables_1) => atoms_spec (ws := Jvm.Cond.code x code maxLocals ret :: tables_1) hat d (List.mem_cons_of_mem _ hd)
  have hfit : Fit s := fun {y c} hc i hi => by
    obtain ⟨ha, rfl⟩ := Array.getElem?_eq_some_iff.mp hc
    have q := List.all_eq_true.mp ((Array.all_eq_true_iff_forall_mem.mp hF) _ (Array.getElem_mem ha)) i (List.mem_range.mpr hi)
    simpa [Array.getElem?_eq_getElem hi] using q
  obtain ⟨i0, ei0⟩ := is_v g1
  obtain rfl : w0 = (.int i0) := Option.some.inj ei0
  obtain ⟨i1, ei1⟩ := is_v g2
  obtain rfl : w1 = (.int i1) := Option.some.inj ei1
  obtain ⟨i2, ei2⟩ := is_v g3
  obtain rfl : w2 = (.int i2) := Option.some.inj ei2
  obtain ⟨i3, ei3⟩ := is_v g4
  obtain rfl : w3 = (.int i3) := Option.some.inj ei3
  obtain ⟨i4, ei4⟩ := is_v g5
  obtain rfl : w4 = (.int i4) := Option.some.inj ei4
  obtain ⟨i5, ei5⟩ := is_v g6
  obtain rfl : w5 = (.int i5) := Option.some.inj ei5
  obtain ⟨n, o, h1, h2, h3, _, L, rfl, ⟨rfl, N⟩, hq⟩ := rm0 l s _ hw tables_1 i0 i1 i2 i3 i4 i5  s.heap s.heap.size (Nat.le_refl _) p e ha hc hk s m _ below hf ((Spec.applies_iff_loose hf).mp happ).1 ⟨rfl, State.Warmed39.refl s, rfl⟩ trivial
  refine ⟨n, _, h1, h2, h3, hpost _ _ _ _ _ _ ⟨Cond.after_iff.mpr rfl, Cond.after_iff.mpr (eq_i res_at (Term.int_eval (1)) rfl), trivial⟩ ⟨hq.1, hq.2.1, (hq.2.2.sift fun y hy => Or.inr (N y hy)).mono (by decide) (by decide)⟩⟩
theorem main_1_1 : Claimed_1_1 := comes_1 fun _ _ _ _ _ _ h hF => ⟨h.1, hF⟩
theorem main_1_2 : Claimed_1_2 := comes_1 fun _ _ _ _ _ _ h hF => ⟨h.2.1, hF⟩
end Jvm.Pilot.@@N@@
namespace Jvm.Pilot.@@N@@
open Jvm Jvm.ClassFile Sem Op Lib Jvm.Free Jvm.Stand Jvm.Pilot.@@N@@.Jvm.D
/-! MADE BY PROGRAM (witnessworld.py) out of the Statement's table words and the real class files: 9 classes; the members and pool entries that the words name. The judged class is class 1, her method 2. -/
namespace start1
open Jvm.ClassFile
def u (s : String) : CpInfo := .utf8 (stringToUtf16 s)
/-- a pool by its gaps: so many unusable entries, then the entry; so many at the end -/
def gap : Nat → List CpInfo → List CpInfo
  | 0, r => r
  | n + 1, r => .unusable :: gap n r
def poolList (es : List (Nat × CpInfo)) (last : Nat) : List CpInfo := es.foldr (fun e r => gap e.1 (e.2 :: r)) (gap last [])
def pool (es : List (Nat × CpInfo)) (last : Nat) : Array CpInfo := ⟨poolList es last⟩
def fileOf (pool : Array CpInfo) (this : Nat) (attrs : Array Attribute := #[]) (ms : Array MethodInfo := #[]) (fl : Nat := 33) (sup : Nat := 0) (ifs : Array Nat := #[]) (fds : Array FieldInfo := #[]) : ClassFile where
  minorVersion := 0
  majorVersion := 65
  constantPool := pool
  accessFlags := fl
  thisClass := this
  superClass := sup
  interfaces := ifs
  fields := fds
  methods := ms
  attributes := attrs
def plain (name : String) (sup : Option ClassId) : Class where
  name := name
  kind := .ordinary
  loader := none
  accessFlags := 33
  super := sup
  interfaces := #[]
  cf := none
  fields := #[]
  methods := #[]
  instanceTypes := #[]
  staticTypes := #[]
  resolved := #[]
  callSites := []
  init := .initialized
  statics := none
  mirror := none

def pool0 : Array CpInfo := pool [(5, u "<init>"), (0, u "()V"), (1, .class_ 10), (1, u "java/lang/Object")] 113

def k0m0 : Method := { name := "<init>", desc := "()V", sig := { parameters := [], returnType := none }, accessFlags := 1, code := none }
/-- java/lang/Object -/
def k0 : Class := { plain "java/lang/Object" none with
  accessFlags := 33
  interfaces := #[]
  cf := some (fileOf pool0 8 #[] #[{ accessFlags := 1, nameIndex := 5, descriptorIndex := 6, attributes := #[] }] 33 0 #[] #[])
  fields := #[]
  methods := #[k0m0]
  instanceTypes := #[]
  staticTypes := #[]
  resolved := Array.replicate 124 none
  statics := none }

def pool1 : Array CpInfo := pool [(2, .class_ 4), (1, u "java/lang/Object"), (0, u "<init>"), (0, u "()V"), (0, .methodref 8 9), (0, .class_ 10), (0, .nameAndType 11 12), (0, u "com/example/kindgen/kindgen/runtime/Utf8CursorSequenceLengthPinLaw"), (0, u "in"), (0, u "(III)Z"), (0, .class_ 14), (0, u "com/example/kindgen/kindgen/runtime/Utf8Cursor"), (0, .integer 2147483648), (0, .methodref 13 17), (0, .nameAndType 18 19), (0, u "sequenceLength"), (0, u "([BII)I"), (3, u "law"), (0, u "(IIIIII)Z")] 4

def k1m0 : Method := { name := "<init>", desc := "()V", sig := { parameters := [], returnType := none }, accessFlags := 1, code := none }
def k1c1 : Code := { maxStack := 2, maxLocals := 3, code := method_2_code, exceptionTable := #[], attributes := #[] }
def k1m1 : Method := { name := "in", desc := "(III)Z", sig := { parameters := [.int, .int, .int], returnType := some .boolean }, accessFlags := 10, code := some k1c1 }
def k1c2 : Code := { maxStack := 4, maxLocals := 18, code := code, exceptionTable := #[], attributes := #[] }
def k1m2 : Method := { name := "law", desc := "(IIIIII)Z", sig := { parameters := [.int, .int, .int, .int, .int, .int], returnType := some .boolean }, accessFlags := 9, code := some k1c2 }
/-- com/example/kindgen/kindgen/runtime/Utf8CursorSequenceLengthPinLaw -/
def k1 : Class := { plain "com/example/kindgen/kindgen/runtime/Utf8CursorSequenceLengthPinLaw" (some 0) with
  accessFlags := 49
  interfaces := #[]
  cf := some (fileOf pool1 8 #[] #[{ accessFlags := 1, nameIndex := 5, descriptorIndex := 6, attributes := #[] }, { accessFlags := 10, nameIndex := 11, descriptorIndex := 12, attributes := #[] }, { accessFlags := 9, nameIndex := 23, descriptorIndex := 24, attributes := #[] }] 49 2 #[] #[])
  fields := #[]
  methods := #[k1m0, k1m1, k1m2]
  instanceTypes := #[]
  staticTypes := #[]
  resolved := Array.replicate 29 none
  statics := none }

def pool2 : Array CpInfo := pool [(4, .class_ 6), (1, u "com/example/kindgen/kindgen/runtime/Utf8Cursor"), (6, .class_ 15), (1, u "java/lang/Object"), (3, u "line"), (0, u "I"), (2, u "column"), (2, u "input"), (0, u "[B"), (2, u "limit"), (2, u "offset"), (28, u "peekedLength"), (95, .integer 2147483648), (2, u "sequenceLength"), (0, u "([BII)I"), (23, u "CUT_SHORT")] 31

def k2c0 : Code := { maxStack := 3, maxLocals := 9, code := prog_168_method_19_code, exceptionTable := #[], attributes := #[] }
def k2m0 : Method := { name := "sequenceLength", desc := "([BII)I", sig := { parameters := [(.array .byte), .int, .int], returnType := some .int }, accessFlags := 8, code := some k2c0 }
/-- com/example/kindgen/kindgen/runtime/Utf8Cursor -/
def k2 : Class := { plain "com/example/kindgen/kindgen/runtime/Utf8Cursor" (some 0) with
  accessFlags := 33
  interfaces := #[]
  cf := some (fileOf pool2 4 #[] #[{ accessFlags := 8, nameIndex := 161, descriptorIndex := 162, attributes := #[] }] 33 13 #[] #[{ accessFlags := 24, nameIndex := 186, descriptorIndex := 20, attributes := #[] }, { accessFlags := 18, nameIndex := 26, descriptorIndex := 27, attributes := #[] }, { accessFlags := 18, nameIndex := 30, descriptorIndex := 20, attributes := #[] }, { accessFlags := 2, nameIndex := 33, descriptorIndex := 20, attributes := #[] }, { accessFlags := 2, nameIndex := 19, descriptorIndex := 20, attributes := #[] }, { accessFlags := 2, nameIndex := 23, descriptorIndex := 20, attributes := #[] }, { accessFlags := 2, nameIndex := 62, descriptorIndex := 20, attributes := #[] }])
  fields := #[{ name := "CUT_SHORT", type := .int, accessFlags := 24, slot := 0, constantValue := 0 }, { name := "input", type := (.array .byte), accessFlags := 18, slot := 0, constantValue := 0 }, { name := "limit", type := .int, accessFlags := 18, slot := 1, constantValue := 0 }, { name := "offset", type := .int, accessFlags := 2, slot := 2, constantValue := 0 }, { name := "line", type := .int, accessFlags := 2, slot := 3, constantValue := 0 }, { name := "column", type := .int, accessFlags := 2, slot := 4, constantValue := 0 }, { name := "peekedLength", type := .int, accessFlags := 2, slot := 5, constantValue := 0 }]
  methods := #[k2m0]
  instanceTypes := #[(.array .byte), .int, .int, .int, .int, .int]
  staticTypes := #[.int]
  resolved := Array.replicate 218 none
  statics := none }

def pool3 : Array CpInfo := pool [(1, u "java/lang/Cloneable"), (0, .class_ 1), (0, u "java/lang/Object"), (0, .class_ 3)] 3

/-- java/lang/Cloneable -/
def k3 : Class := { plain "java/lang/Cloneable" (some 0) with
  accessFlags := 1537
  interfaces := #[]
  cf := some (fileOf pool3 2 #[] #[] 1537 4 #[] #[])
  fields := #[]
  methods := #[]
  instanceTypes := #[]
  staticTypes := #[]
  resolved := Array.replicate 8 none
  statics := none }

def pool4 : Array CpInfo := pool [(1, u "java/io/Serializable"), (0, .class_ 1), (0, u "java/lang/Object"), (0, .class_ 3)] 3

/-- java/io/Serializable -/
def k4 : Class := { plain "java/io/Serializable" (some 0) with
  accessFlags := 1537
  interfaces := #[]
  cf := some (fileOf pool4 2 #[] #[] 1537 4 #[] #[])
  fields := #[]
  methods := #[]
  instanceTypes := #[]
  staticTypes := #[]
  resolved := Array.replicate 8 none
  statics := none }

/-- the primitive byte -/
def k5 : Class := { plain "byte" none with kind := .primitive 'B', accessFlags := 0x411 }
/-- [B -/
def k6 : Class := { plain "[B" (some 0) with kind := .array 5 .byte, interfaces := #[3, 4], accessFlags := 1041 }

/-- the primitive int -/
def k7 : Class := { plain "int" none with kind := .primitive 'I', accessFlags := 0x411 }
/-- [I -/
def k8 : Class := { plain "[I" (some 0) with kind := .array 7 .int, interfaces := #[3, 4], accessFlags := 1041 }

def heap : Heap := #[]
def classes : Array Class := #[k0, k1, k2, k3, k4, k5, k6, k7, k8]
def interned : List (Array UInt16 × Addr) := []
def slotsUsed : Nat := 0
def theMethod : MethodId := ⟨1, 2⟩
def args0 : Array Value := #[.int 5, .int 5, .int 5, .int 5, .int 5, .int 5]
def aboutOver (below : List Frame) : State where
  vm := { classes := classes, interned := interned.toArray }
  heap := heap
  slotsUsed := slotsUsed
  threads := #[{ frames := .invoking theMethod args0 :: below }]
def below0 : List Frame := [.native { method := ⟨0, 0⟩, args := #[] }]
def about1 : State := aboutOver below0
def p0 : Program := .bare "" "" ""
def e0 : Env := launch0.env 0 0 0
theorem w_frames : about1.frames = Frame.invoking theMethod args0 :: below0 := rfl
set_option maxRecDepth 65536 in
theorem w_args : argsFit about1.vm theMethod args0 = true := by decide +kernel
set_option maxRecDepth 65536 in
theorem w_heap : heapFits about1 = true := by decide +kernel
set_option maxRecDepth 65536 in
theorem w_runnable : about1.curStatus? = some .runnable := by decide +kernel
set_option maxRecDepth 65536 in
theorem w_alone : about1.alone = true := by decide +kernel
set_option maxRecDepth 65536 in
theorem w_named : about1.methodNamed? x = some theMethod := by decide +kernel
set_option maxRecDepth 65536 in
theorem w_hears : about1.hears theMethod below0 = true := by decide +kernel
set_option maxRecDepth 65536 in
theorem w_ripe : about1.ripe theMethod args0 below0 = true := by decide +kernel
theorem w_running : about1.status = .running := rfl
set_option maxRecDepth 65536 in
theorem w_room : about1.hasRoom e0.platform room_1 = true :=
  launch0.hasRoom_least _ room_1 (by decide +kernel) (by decide +kernel) (by decide +kernel) (by decide +kernel) (by decide +kernel) (by decide +kernel)
theorem allAtoms_all (ts : List Jvm.Cond) (a : Array Jvm.Value) (st : Jvm.State) : (allAtoms ts).before a st = ts.all (fun c => c.before a st) := by
  induction ts with
  | nil => rfl
  | cons c t ih =>
    show (Jvm.Cond.and c (allAtoms t)).before a st = _
    rw [Jvm.Cond.before_and, ih, List.all_cons]
def words1 : List Jvm.Cond := Jvm.Cond.code x code maxLocals ret :: tables_1
/-- a 'code' word, met by the world's own term for the bytes: nothing is compared byte by byte -/
theorem code_word {y : MethodName} {bytes : ByteArray} {mx : Nat} {rt : Option FieldType} {a : Array Value} {s : State} {m : MethodId} {meth : Method} {c : Code} (h1 : s.methodNamed? y = some m) (h2 : s.vm.method? m = some meth) (h3 : meth.code = some c) (h4 : c.code = bytes)
    (h5 : (c.maxLocals == mx && c.exceptionTable.isEmpty && decide (c.maxStack ≤ mostOperands) && decide (meth.sig.returnType = rt) && !meth.locks && decide (parseMethodDescriptor y.desc = some meth.sig)) = true) : (Jvm.Cond.code y bytes mx rt).before a s = true := by
  simp only [Bool.and_eq_true, beq_iff_eq, Bool.not_eq_true', decide_eq_true_eq] at h5
  obtain ⟨⟨⟨⟨⟨g1, g2⟩, g3⟩, g4⟩, g5⟩, g6⟩ := h5
  simp [Cond.before, Cond.holds, Cond.value, h1, h2, h3, h4, g1, g2, g3, g4, g5, g6]
def isCode : Jvm.Cond → Bool
  | .code _ _ _ _ => true
  | _ => false
theorem all_split {L : List Jvm.Cond} {P : Jvm.Cond → Bool} (h1 : L.all (fun c => isCode c || P c) = true) (h2 : ∀ c ∈ L.filter isCode, P c = true) : L.all P = true := by
  refine List.all_eq_true.mpr fun c hc => ?_
  have h := List.all_eq_true.mp h1 c hc
  rcases Bool.eq_false_or_eq_true (isCode c) with hi | hi
  · exact h2 c (List.mem_filter.mpr ⟨hc, hi⟩)
  · simpa [hi] using h
set_option maxRecDepth 65536 in
theorem w_c0 : (Jvm.Cond.code x code maxLocals ret).before args0 about1 = true := code_word (m := ⟨1, 2⟩) (meth := k1m2) (c := k1c2) (by decide +kernel) rfl rfl rfl (by decide +kernel)
set_option maxRecDepth 65536 in
theorem w_c1 : (Jvm.Cond.code ({ cls := "com/example/kindgen/kindgen/runtime/Utf8CursorSequenceLengthPinLaw", name := "in", desc := "(III)Z" } : Jvm.MethodName) method_2_code (3 : Nat) (Option.some Jvm.ClassFile.FieldType.boolean)).before args0 about1 = true := code_word (m := ⟨1, 1⟩) (meth := k1m1) (c := k1c1) (by decide +kernel) rfl rfl rfl (by decide +kernel)
set_option maxRecDepth 65536 in
theorem w_c2 : (Jvm.Cond.code ({ cls := "com/example/kindgen/kindgen/runtime/Utf8Cursor", name := "sequenceLength", desc := "([BII)I" } : Jvm.MethodName) prog_168_method_19_code (9 : Nat) (Option.some Jvm.ClassFile.FieldType.int)).before args0 about1 = true := code_word (m := ⟨2, 0⟩) (meth := k2m0) (c := k2c0) (by decide +kernel) rfl rfl rfl (by decide +kernel)
def codes1 : List Jvm.Cond := [Jvm.Cond.code x code maxLocals ret, Jvm.Cond.code ({ cls := "com/example/kindgen/kindgen/runtime/Utf8CursorSequenceLengthPinLaw", name := "in", desc := "(III)Z" } : Jvm.MethodName) method_2_code (3 : Nat) (Option.some Jvm.ClassFile.FieldType.boolean), Jvm.Cond.code ({ cls := "com/example/kindgen/kindgen/runtime/Utf8Cursor", name := "sequenceLength", desc := "([BII)I" } : Jvm.MethodName) prog_168_method_19_code (9 : Nat) (Option.some Jvm.ClassFile.FieldType.int)]
set_option maxRecDepth 65536 in
theorem codes_eq : words1.filter isCode = codes1 := rfl
theorem w_codes : ∀ c ∈ words1.filter isCode, c.before args0 about1 = true := by
  rw [codes_eq]
  intro c hc
  simp only [codes1, List.mem_cons, List.not_mem_nil, or_false] at hc
  rcases hc with rfl | rfl | rfl
  · exact w_c0
  · exact w_c1
  · exact w_c2
set_option maxRecDepth 65536 in
theorem w_t1 : words1.all (fun c => isCode c || c.before args0 about1) = true := by decide +kernel
theorem w_tables : (allAtoms (Jvm.Cond.code x code maxLocals ret :: tables_1)).before args0 about1 = true := by
  rw [allAtoms_all]
  show words1.all (fun c => c.before args0 about1) = true
  refine all_split ?_ w_codes
  rw [w_t1]
set_option maxRecDepth 65536 in
theorem w_case : (Jvm.Cond.and given_1 narrow_1).before args0 about1 = true := by decide +kernel
theorem w_applies : (headSpec (Jvm.Cond.code x code maxLocals ret :: tables_1) room_1).applies x e0.platform about1 = true :=
  (Spec.applies_iff w_frames).mpr ⟨w_running, w_runnable, w_alone, w_named, w_hears, w_ripe, w_room, w_tables⟩
theorem atStart : AtStart classFile x code maxLocals ret World_1 tables_1 room_1 Calls_1 rest_1 Pre_1 launch0 p0 e0 about1 theMethod args0 below0 :=
  ⟨lists_1, trivial, launch0.admits_env _ _ _, launch0.least_env, fairChoices_fair.cas, fairChoices_fair.clock, w_frames, w_args, w_heap, w_applies, trivial, trivial, w_case⟩
end start1
theorem witness_1 : WitnessClaimed_1 := ⟨start1.p0, start1.e0, start1.about1, start1.theMethod, start1.args0, start1.below0, start1.atStart⟩
end Jvm.Pilot.@@N@@
