import JvmDerived
import JvmDerived.Pilot.@@N@@Statement
import JvmDerived.Pilot.@@N@@Code
set_option linter.unusedVariables false
set_option linter.unusedSimpArgs false
namespace Jvm.RoadKit
open Sem ClassFile Op Lib Jvm.Stand Jvm.Free Jvm.LawKit
section New
variable {p : Program} {l : Launch} {e : Env} {R : Room} {s : State} {m : MethodId} {args : Array Value} {below : List Frame} {meth : Method} {c : Code} {T : State} {locs : List Loc} {cells slots : Nat}
theorem retI (X : Stand p l e R s m args below meth c T locs cells slots) (hx : p.tables.exec = Jvm.exec) {pc : Nat} {Ls : Array Slot} {z : Int32} {rest : List Value} (hret : meth.sig.returnType = some .int) (hd : decode c.code pc = .ok (.ireturn, 1)) {fs : List Frame}
    (hl : ∀ (f : JFrame) (acts : List Action), f.method = m → f.locked = none → f.entered = [] → (doReturn e (T.setTop f) acts (some (.int z))).1 = T.setFrames fs) : Steps p.tables e below (T.setTop (mkF m pc Ls (.int z :: rest))) (T.setFrames fs) := by
  have hm' : T.vm.method? m = some meth := X.method'
  have hn : narrow .int (.int z) = .int z := rfl
  show Steps p.tables e below (T.setTop { method := m, pc := pc, locals := Ls, stack := _ :: rest, locked := none }) _
  jvm_step X.here [X.here.top, hx, hd, hm', hret, hn]
  first | (intro acts; rw [hl _ acts rfl rfl rfl]) | rw [hl _ _ rfl rfl rfl]
  exact Steps.refl _
theorem gwLrem {tb : Tables} [Ours tb] {e : Env} {below : List Frame} {T target : State} {m : MethodId} {c : Code} {g : JFrame} (h : At T m c below) (hx : tb.exec = Jvm.exec) (hg : g.method = m) {x y : Int64} {rest : List Value} (hd : decode c.code g.pc = .ok (.lrem, 1)) (hs : g.stack = .long y :: .long x :: rest) (hy : y ≠ 0)
    (hr : Steps tb e below (T.setTop { g with pc := g.pc + 1, stack := .long (x % y) :: rest }) target) : Steps tb e below (T.setTop g) target :=
  XS.lrem h hx hg hd hs hy (by rw [lrem_mod]; exact hr)
theorem gwIrem {tb : Tables} [Ours tb] {e : Env} {below : List Frame} {T target : State} {m : MethodId} {c : Code} {g : JFrame} (h : At T m c below) (hx : tb.exec = Jvm.exec) (hg : g.method = m) {x y : Int32} {rest : List Value} (hd : decode c.code g.pc = .ok (.irem, 1)) (hs : g.stack = .int y :: .int x :: rest) (hy : y ≠ 0)
    (hr : Steps tb e below (T.setTop { g with pc := g.pc + 1, stack := .int (x % y) :: rest }) target) : Steps tb e below (T.setTop g) target :=
  XS.irem h hx hg hd hs hy (by rw [Jvm.irem_eq_mod]; exact hr)
end New
end Jvm.RoadKit
@@BLOCK:NumsL.lean.txt@@
namespace Jvm.Pilot.@@N@@
open Jvm Jvm.ClassFile Sem Op Lib Jvm.Free Jvm.Stand Jvm.LawKit Jvm.RoadKit Bundle Jvm.Pilot.@@N@@.Jvm.D

theorem d1_0 : decode jdk_29_method_65_code 0 = .ok (.iload_n 0, 1) := by decide +kernel
theorem d1_1 : decode jdk_29_method_65_code 1 = .ok (.iload_n 1, 1) := by decide +kernel
theorem d1_2 : decode jdk_29_method_65_code 2 = .ok (.if_icmp .lt 7, 3) := by decide +kernel
theorem d1_5 : decode jdk_29_method_65_code 5 = .ok (.iload_n 0, 1) := by decide +kernel
theorem d1_6 : decode jdk_29_method_65_code 6 = .ok (.goto 4, 3) := by decide +kernel
theorem d1_9 : decode jdk_29_method_65_code 9 = .ok (.iload_n 1, 1) := by decide +kernel
theorem d1_10 : decode jdk_29_method_65_code 10 = .ok (.ireturn, 1) := by decide +kernel

theorem ef_1 (m : MethodId) (x0 : Int32) (x1 : Int32) : entryFrame m #[(.int x0), (.int x1)] 2 = mkF m 0 #[.val (.int x0), .val (.int x1)] [] := by first | (simp [entryFrame, mkF, argsToLocals, Value.category]; done) | rfl
theorem d2_0 : decode jdk_29_method_61_code 0 = .ok (.lload_n 0, 1) := by decide +kernel
theorem d2_1 : decode jdk_29_method_61_code 1 = .ok (.lconst 0, 1) := by decide +kernel
theorem d2_2 : decode jdk_29_method_61_code 2 = .ok (.lcmp, 1) := by decide +kernel
theorem d2_3 : decode jdk_29_method_61_code 3 = .ok (.ifCond .ge 8, 3) := by decide +kernel
theorem d2_6 : decode jdk_29_method_61_code 6 = .ok (.lload_n 0, 1) := by decide +kernel
theorem d2_7 : decode jdk_29_method_61_code 7 = .ok (.lneg, 1) := by decide +kernel
theorem d2_8 : decode jdk_29_method_61_code 8 = .ok (.goto 4, 3) := by decide +kernel
theorem d2_11 : decode jdk_29_method_61_code 11 = .ok (.lload_n 0, 1) := by decide +kernel
theorem d2_12 : decode jdk_29_method_61_code 12 = .ok (.lreturn, 1) := by decide +kernel

theorem ef_2 (m : MethodId) (x0 : Int64) : entryFrame m #[(.long x0)] 2 = mkF m 0 #[.val (.long x0), .second] [] := by first | (simp [entryFrame, mkF, argsToLocals, Value.category]; done) | rfl
theorem d3_0 : decode prog_1_method_9_code 0 = .ok (.iload 8, 2) := by decide +kernel
theorem d3_2 : decode prog_1_method_9_code 2 = .ok (.iconst 2, 1) := by decide +kernel
theorem d3_3 : decode prog_1_method_9_code 3 = .ok (.isub, 1) := by decide +kernel
theorem d3_4 : decode prog_1_method_9_code 4 = .ok (.iload 4, 2) := by decide +kernel
theorem d3_6 : decode prog_1_method_9_code 6 = .ok (.isub, 1) := by decide +kernel
theorem d3_7 : decode prog_1_method_9_code 7 = .ok (.iconst 2, 1) := by decide +kernel
theorem d3_8 : decode prog_1_method_9_code 8 = .ok (.isub, 1) := by decide +kernel
theorem d3_9 : decode prog_1_method_9_code 9 = .ok (.istore 9, 2) := by decide +kernel
theorem d3_11 : decode prog_1_method_9_code 11 = .ok (.iload 9, 2) := by decide +kernel
theorem d3_13 : decode prog_1_method_9_code 13 = .ok (.invokestatic 120, 3) := by decide +kernel
theorem d3_16 : decode prog_1_method_9_code 16 = .ok (.bipush 18, 2) := by decide +kernel
theorem d3_18 : decode prog_1_method_9_code 18 = .ok (.if_icmp .le 7, 3) := by decide +kernel
theorem d3_21 : decode prog_1_method_9_code 21 = .ok (.ldc2_w 126, 3) := by decide +kernel
theorem d3_24 : decode prog_1_method_9_code 24 = .ok (.lreturn, 1) := by decide +kernel
theorem d3_25 : decode prog_1_method_9_code 25 = .ok (.iload 9, 2) := by decide +kernel
theorem d3_27 : decode prog_1_method_9_code 27 = .ok (.invokestatic 120, 3) := by decide +kernel
theorem d3_30 : decode prog_1_method_9_code 30 = .ok (.invokestatic 128, 3) := by decide +kernel
theorem d3_33 : decode prog_1_method_9_code 33 = .ok (.lstore 10, 2) := by decide +kernel
theorem d3_35 : decode prog_1_method_9_code 35 = .ok (.iload 9, 2) := by decide +kernel
theorem d3_37 : decode prog_1_method_9_code 37 = .ok (.ifCond .le 8, 3) := by decide +kernel
theorem d3_40 : decode prog_1_method_9_code 40 = .ok (.lload 10, 2) := by decide +kernel
theorem d3_42 : decode prog_1_method_9_code 42 = .ok (.goto 4, 3) := by decide +kernel
theorem d3_45 : decode prog_1_method_9_code 45 = .ok (.lconst 1, 1) := by decide +kernel
theorem d3_46 : decode prog_1_method_9_code 46 = .ok (.lstore 12, 2) := by decide +kernel
theorem d3_48 : decode prog_1_method_9_code 48 = .ok (.iload 9, 2) := by decide +kernel
theorem d3_50 : decode prog_1_method_9_code 50 = .ok (.ifCond .le 7, 3) := by decide +kernel
theorem d3_53 : decode prog_1_method_9_code 53 = .ok (.lconst 1, 1) := by decide +kernel
theorem d3_54 : decode prog_1_method_9_code 54 = .ok (.goto 5, 3) := by decide +kernel
theorem d3_57 : decode prog_1_method_9_code 57 = .ok (.lload 10, 2) := by decide +kernel
theorem d3_59 : decode prog_1_method_9_code 59 = .ok (.lstore 14, 2) := by decide +kernel
theorem d3_61 : decode prog_1_method_9_code 61 = .ok (.lload_n 2, 1) := by decide +kernel
theorem d3_62 : decode prog_1_method_9_code 62 = .ok (.lload 5, 2) := by decide +kernel
theorem d3_64 : decode prog_1_method_9_code 64 = .ok (.invokestatic 132, 3) := by decide +kernel
theorem d3_67 : decode prog_1_method_9_code 67 = .ok (.ifCond .eq 26, 3) := by decide +kernel
theorem d3_70 : decode prog_1_method_9_code 70 = .ok (.lload_n 2, 1) := by decide +kernel
theorem d3_71 : decode prog_1_method_9_code 71 = .ok (.lload 5, 2) := by decide +kernel
theorem d3_73 : decode prog_1_method_9_code 73 = .ok (.lmul, 1) := by decide +kernel
theorem d3_74 : decode prog_1_method_9_code 74 = .ok (.lload 12, 2) := by decide +kernel
theorem d3_76 : decode prog_1_method_9_code 76 = .ok (.invokestatic 132, 3) := by decide +kernel
theorem d3_79 : decode prog_1_method_9_code 79 = .ok (.ifCond .eq 14, 3) := by decide +kernel
theorem d3_82 : decode prog_1_method_9_code 82 = .ok (.iload 7, 2) := by decide +kernel
theorem d3_84 : decode prog_1_method_9_code 84 = .ok (.i2l, 1) := by decide +kernel
theorem d3_85 : decode prog_1_method_9_code 85 = .ok (.lload 14, 2) := by decide +kernel
theorem d3_87 : decode prog_1_method_9_code 87 = .ok (.invokestatic 132, 3) := by decide +kernel
theorem d3_90 : decode prog_1_method_9_code 90 = .ok (.ifCond .ne 7, 3) := by decide +kernel
theorem d3_93 : decode prog_1_method_9_code 93 = .ok (.ldc2_w 126, 3) := by decide +kernel
theorem d3_96 : decode prog_1_method_9_code 96 = .ok (.lreturn, 1) := by decide +kernel
theorem d3_97 : decode prog_1_method_9_code 97 = .ok (.lload_n 2, 1) := by decide +kernel
theorem d3_98 : decode prog_1_method_9_code 98 = .ok (.lload 5, 2) := by decide +kernel
theorem d3_100 : decode prog_1_method_9_code 100 = .ok (.lmul, 1) := by decide +kernel
theorem d3_101 : decode prog_1_method_9_code 101 = .ok (.lload 12, 2) := by decide +kernel
theorem d3_103 : decode prog_1_method_9_code 103 = .ok (.lmul, 1) := by decide +kernel
theorem d3_104 : decode prog_1_method_9_code 104 = .ok (.lstore 16, 2) := by decide +kernel
theorem d3_106 : decode prog_1_method_9_code 106 = .ok (.iload 7, 2) := by decide +kernel
theorem d3_108 : decode prog_1_method_9_code 108 = .ok (.i2l, 1) := by decide +kernel
theorem d3_109 : decode prog_1_method_9_code 109 = .ok (.lload 14, 2) := by decide +kernel
theorem d3_111 : decode prog_1_method_9_code 111 = .ok (.lmul, 1) := by decide +kernel
theorem d3_112 : decode prog_1_method_9_code 112 = .ok (.lstore 18, 2) := by decide +kernel
theorem d3_114 : decode prog_1_method_9_code 114 = .ok (.lload 16, 2) := by decide +kernel
theorem d3_116 : decode prog_1_method_9_code 116 = .ok (.lload 18, 2) := by decide +kernel
theorem d3_118 : decode prog_1_method_9_code 118 = .ok (.ldiv, 1) := by decide +kernel
theorem d3_119 : decode prog_1_method_9_code 119 = .ok (.lstore 20, 2) := by decide +kernel
theorem d3_121 : decode prog_1_method_9_code 121 = .ok (.lload 16, 2) := by decide +kernel
theorem d3_123 : decode prog_1_method_9_code 123 = .ok (.lload 18, 2) := by decide +kernel
theorem d3_125 : decode prog_1_method_9_code 125 = .ok (.lrem, 1) := by decide +kernel
theorem d3_126 : decode prog_1_method_9_code 126 = .ok (.lstore 22, 2) := by decide +kernel
theorem d3_128 : decode prog_1_method_9_code 128 = .ok (.lload_n 0, 1) := by decide +kernel
theorem d3_129 : decode prog_1_method_9_code 129 = .ok (.lload 20, 2) := by decide +kernel
theorem d3_131 : decode prog_1_method_9_code 131 = .ok (.invokestatic 132, 3) := by decide +kernel
theorem d3_134 : decode prog_1_method_9_code 134 = .ok (.ifCond .eq 12, 3) := by decide +kernel
theorem d3_137 : decode prog_1_method_9_code 137 = .ok (.lload_n 0, 1) := by decide +kernel
theorem d3_138 : decode prog_1_method_9_code 138 = .ok (.lload 22, 2) := by decide +kernel
theorem d3_140 : decode prog_1_method_9_code 140 = .ok (.invokestatic 132, 3) := by decide +kernel
theorem d3_143 : decode prog_1_method_9_code 143 = .ok (.ifCond .ne 7, 3) := by decide +kernel
theorem d3_146 : decode prog_1_method_9_code 146 = .ok (.ldc2_w 126, 3) := by decide +kernel
theorem d3_149 : decode prog_1_method_9_code 149 = .ok (.lreturn, 1) := by decide +kernel
theorem d3_150 : decode prog_1_method_9_code 150 = .ok (.lload_n 0, 1) := by decide +kernel
theorem d3_151 : decode prog_1_method_9_code 151 = .ok (.lload 20, 2) := by decide +kernel
theorem d3_153 : decode prog_1_method_9_code 153 = .ok (.lmul, 1) := by decide +kernel
theorem d3_154 : decode prog_1_method_9_code 154 = .ok (.lstore 24, 2) := by decide +kernel
theorem d3_156 : decode prog_1_method_9_code 156 = .ok (.lload_n 0, 1) := by decide +kernel
theorem d3_157 : decode prog_1_method_9_code 157 = .ok (.lload 22, 2) := by decide +kernel
theorem d3_159 : decode prog_1_method_9_code 159 = .ok (.lmul, 1) := by decide +kernel
theorem d3_160 : decode prog_1_method_9_code 160 = .ok (.lload 18, 2) := by decide +kernel
theorem d3_162 : decode prog_1_method_9_code 162 = .ok (.ldiv, 1) := by decide +kernel
theorem d3_163 : decode prog_1_method_9_code 163 = .ok (.lstore 26, 2) := by decide +kernel
theorem d3_165 : decode prog_1_method_9_code 165 = .ok (.lload_n 0, 1) := by decide +kernel
theorem d3_166 : decode prog_1_method_9_code 166 = .ok (.lload 22, 2) := by decide +kernel
theorem d3_168 : decode prog_1_method_9_code 168 = .ok (.lmul, 1) := by decide +kernel
theorem d3_169 : decode prog_1_method_9_code 169 = .ok (.lload 18, 2) := by decide +kernel
theorem d3_171 : decode prog_1_method_9_code 171 = .ok (.lrem, 1) := by decide +kernel
theorem d3_172 : decode prog_1_method_9_code 172 = .ok (.invokestatic 136, 3) := by decide +kernel
theorem d3_175 : decode prog_1_method_9_code 175 = .ok (.lstore 28, 2) := by decide +kernel
theorem d3_177 : decode prog_1_method_9_code 177 = .ok (.lload 28, 2) := by decide +kernel
theorem d3_179 : decode prog_1_method_9_code 179 = .ok (.lload 18, 2) := by decide +kernel
theorem d3_181 : decode prog_1_method_9_code 181 = .ok (.lload 28, 2) := by decide +kernel
theorem d3_183 : decode prog_1_method_9_code 183 = .ok (.lsub, 1) := by decide +kernel
theorem d3_184 : decode prog_1_method_9_code 184 = .ok (.lcmp, 1) := by decide +kernel
theorem d3_185 : decode prog_1_method_9_code 185 = .ok (.ifCond .lt 17, 3) := by decide +kernel
theorem d3_188 : decode prog_1_method_9_code 188 = .ok (.lload_n 0, 1) := by decide +kernel
theorem d3_189 : decode prog_1_method_9_code 189 = .ok (.invokestatic 139, 3) := by decide +kernel
theorem d3_192 : decode prog_1_method_9_code 192 = .ok (.lload 16, 2) := by decide +kernel
theorem d3_194 : decode prog_1_method_9_code 194 = .ok (.invokestatic 139, 3) := by decide +kernel
theorem d3_197 : decode prog_1_method_9_code 197 = .ok (.imul, 1) := by decide +kernel
theorem d3_198 : decode prog_1_method_9_code 198 = .ok (.i2l, 1) := by decide +kernel
theorem d3_199 : decode prog_1_method_9_code 199 = .ok (.goto 4, 3) := by decide +kernel
theorem d3_202 : decode prog_1_method_9_code 202 = .ok (.lconst 0, 1) := by decide +kernel
theorem d3_203 : decode prog_1_method_9_code 203 = .ok (.lstore 30, 2) := by decide +kernel
theorem d3_205 : decode prog_1_method_9_code 205 = .ok (.lload 24, 2) := by decide +kernel
theorem d3_207 : decode prog_1_method_9_code 207 = .ok (.lload 26, 2) := by decide +kernel
theorem d3_209 : decode prog_1_method_9_code 209 = .ok (.invokestatic 143, 3) := by decide +kernel
theorem d3_212 : decode prog_1_method_9_code 212 = .ok (.ifCond .eq 16, 3) := by decide +kernel
theorem d3_215 : decode prog_1_method_9_code 215 = .ok (.lload 24, 2) := by decide +kernel
theorem d3_217 : decode prog_1_method_9_code 217 = .ok (.lload 26, 2) := by decide +kernel
theorem d3_219 : decode prog_1_method_9_code 219 = .ok (.ladd, 1) := by decide +kernel
theorem d3_220 : decode prog_1_method_9_code 220 = .ok (.lload 30, 2) := by decide +kernel
theorem d3_222 : decode prog_1_method_9_code 222 = .ok (.invokestatic 143, 3) := by decide +kernel
theorem d3_225 : decode prog_1_method_9_code 225 = .ok (.ifCond .ne 7, 3) := by decide +kernel
theorem d3_228 : decode prog_1_method_9_code 228 = .ok (.ldc2_w 126, 3) := by decide +kernel
theorem d3_231 : decode prog_1_method_9_code 231 = .ok (.lreturn, 1) := by decide +kernel
theorem d3_232 : decode prog_1_method_9_code 232 = .ok (.lload 24, 2) := by decide +kernel
theorem d3_234 : decode prog_1_method_9_code 234 = .ok (.lload 26, 2) := by decide +kernel
theorem d3_236 : decode prog_1_method_9_code 236 = .ok (.ladd, 1) := by decide +kernel
theorem d3_237 : decode prog_1_method_9_code 237 = .ok (.lload 30, 2) := by decide +kernel
theorem d3_239 : decode prog_1_method_9_code 239 = .ok (.ladd, 1) := by decide +kernel
theorem d3_240 : decode prog_1_method_9_code 240 = .ok (.lreturn, 1) := by decide +kernel
theorem pn_3 : plainName "com/example/syndicata/syndicata/Accrual" = true := by first | (simp [plainName, overriddenIn]; done) | decide +kernel
theorem ef_3 (m : MethodId) (x0 : Int64) (x1 : Int64) (x2 : Int32) (x3 : Int64) (x4 : Int32) (x5 : Int32) : entryFrame m #[(.long x0), (.long x1), (.int x2), (.long x3), (.int x4), (.int x5)] 32 = mkF m 0 #[.val (.long x0), .second, .val (.long x1), .second, .val (.int x2), .val (.long x3), .second, .val (.int x4), .val (.int x5), .unset, .unset, .unset, .unset, .unset, .unset, .unset, .unset, .unset, .unset, .unset, .unset, .unset, .unset, .unset, .unset, .unset, .unset, .unset, .unset, .unset, .unset, .unset] [] := by first | (simp [entryFrame, mkF, argsToLocals, Value.category]; done) | rfl
theorem d4_0 : decode jdk_29_method_59_code 0 = .ok (.iload_n 0, 1) := by decide +kernel
theorem d4_1 : decode jdk_29_method_59_code 1 = .ok (.ifCond .ge 8, 3) := by decide +kernel
theorem d4_4 : decode jdk_29_method_59_code 4 = .ok (.iload_n 0, 1) := by decide +kernel
theorem d4_5 : decode jdk_29_method_59_code 5 = .ok (.ineg, 1) := by decide +kernel
theorem d4_6 : decode jdk_29_method_59_code 6 = .ok (.goto 4, 3) := by decide +kernel
theorem d4_9 : decode jdk_29_method_59_code 9 = .ok (.iload_n 0, 1) := by decide +kernel
theorem d4_10 : decode jdk_29_method_59_code 10 = .ok (.ireturn, 1) := by decide +kernel

theorem ef_4 (m : MethodId) (x0 : Int32) : entryFrame m #[(.int x0)] 1 = mkF m 0 #[.val (.int x0)] [] := by first | (simp [entryFrame, mkF, argsToLocals, Value.category]; done) | rfl
theorem d5_0 : decode prog_1_method_14_code 0 = .ok (.lconst 1, 1) := by decide +kernel
theorem d5_1 : decode prog_1_method_14_code 1 = .ok (.lstore_n 1, 1) := by decide +kernel
theorem d5_2 : decode prog_1_method_14_code 2 = .ok (.iconst 0, 1) := by decide +kernel
theorem d5_3 : decode prog_1_method_14_code 3 = .ok (.istore_n 3, 1) := by decide +kernel
theorem d5_4 : decode prog_1_method_14_code 4 = .ok (.iload_n 3, 1) := by decide +kernel
theorem d5_5 : decode prog_1_method_14_code 5 = .ok (.iload_n 0, 1) := by decide +kernel
theorem d5_6 : decode prog_1_method_14_code 6 = .ok (.if_icmp .ge 15, 3) := by decide +kernel
theorem d5_9 : decode prog_1_method_14_code 9 = .ok (.lload_n 1, 1) := by decide +kernel
theorem d5_10 : decode prog_1_method_14_code 10 = .ok (.ldc2_w 167, 3) := by decide +kernel
theorem d5_13 : decode prog_1_method_14_code 13 = .ok (.lmul, 1) := by decide +kernel
theorem d5_14 : decode prog_1_method_14_code 14 = .ok (.lstore_n 1, 1) := by decide +kernel
theorem d5_15 : decode prog_1_method_14_code 15 = .ok (.iinc 3 1, 3) := by decide +kernel
theorem d5_18 : decode prog_1_method_14_code 18 = .ok (.goto (-14), 3) := by decide +kernel
theorem d5_21 : decode prog_1_method_14_code 21 = .ok (.lload_n 1, 1) := by decide +kernel
theorem d5_22 : decode prog_1_method_14_code 22 = .ok (.lreturn, 1) := by decide +kernel
theorem pn_5 : plainName "com/example/syndicata/syndicata/Accrual" = true := by first | (simp [plainName, overriddenIn]; done) | decide +kernel
theorem ef_5 (m : MethodId) (x0 : Int32) : entryFrame m #[(.int x0)] 4 = mkF m 0 #[.val (.int x0), .unset, .unset, .unset] [] := by first | (simp [entryFrame, mkF, argsToLocals, Value.category]; done) | rfl
theorem d6_0 : decode prog_1_method_12_code 0 = .ok (.lload_n 0, 1) := by decide +kernel
theorem d6_1 : decode prog_1_method_12_code 1 = .ok (.lload_n 2, 1) := by decide +kernel
theorem d6_2 : decode prog_1_method_12_code 2 = .ok (.invokestatic 164, 3) := by decide +kernel
theorem d6_5 : decode prog_1_method_12_code 5 = .ok (.lload_n 0, 1) := by decide +kernel
theorem d6_6 : decode prog_1_method_12_code 6 = .ok (.lload_n 2, 1) := by decide +kernel
theorem d6_7 : decode prog_1_method_12_code 7 = .ok (.lmul, 1) := by decide +kernel
theorem d6_8 : decode prog_1_method_12_code 8 = .ok (.bipush 63, 2) := by decide +kernel
theorem d6_10 : decode prog_1_method_12_code 10 = .ok (.lshr, 1) := by decide +kernel
theorem d6_11 : decode prog_1_method_12_code 11 = .ok (.lcmp, 1) := by decide +kernel
theorem d6_12 : decode prog_1_method_12_code 12 = .ok (.ifCond .ne 7, 3) := by decide +kernel
theorem d6_15 : decode prog_1_method_12_code 15 = .ok (.iconst 1, 1) := by decide +kernel
theorem d6_16 : decode prog_1_method_12_code 16 = .ok (.goto 4, 3) := by decide +kernel
theorem d6_19 : decode prog_1_method_12_code 19 = .ok (.iconst 0, 1) := by decide +kernel
theorem d6_20 : decode prog_1_method_12_code 20 = .ok (.ireturn, 1) := by decide +kernel
theorem pn_6 : plainName "com/example/syndicata/syndicata/Accrual" = true := by first | (simp [plainName, overriddenIn]; done) | decide +kernel
theorem ef_6 (m : MethodId) (x0 : Int64) (x1 : Int64) : entryFrame m #[(.long x0), (.long x1)] 4 = mkF m 0 #[.val (.long x0), .second, .val (.long x1), .second] [] := by first | (simp [entryFrame, mkF, argsToLocals, Value.category]; done) | rfl
theorem d7_0 : decode jdk_29_method_45_code 0 = .ok (.lload_n 0, 1) := by decide +kernel
theorem d7_1 : decode jdk_29_method_45_code 1 = .ok (.bipush 32, 2) := by decide +kernel
theorem d7_3 : decode jdk_29_method_45_code 3 = .ok (.lshr, 1) := by decide +kernel
theorem d7_4 : decode jdk_29_method_45_code 4 = .ok (.lstore 4, 2) := by decide +kernel
theorem d7_6 : decode jdk_29_method_45_code 6 = .ok (.lload_n 0, 1) := by decide +kernel
theorem d7_7 : decode jdk_29_method_45_code 7 = .ok (.ldc2_w 138, 3) := by decide +kernel
theorem d7_10 : decode jdk_29_method_45_code 10 = .ok (.land, 1) := by decide +kernel
theorem d7_11 : decode jdk_29_method_45_code 11 = .ok (.lstore 6, 2) := by decide +kernel
theorem d7_13 : decode jdk_29_method_45_code 13 = .ok (.lload_n 2, 1) := by decide +kernel
theorem d7_14 : decode jdk_29_method_45_code 14 = .ok (.bipush 32, 2) := by decide +kernel
theorem d7_16 : decode jdk_29_method_45_code 16 = .ok (.lshr, 1) := by decide +kernel
theorem d7_17 : decode jdk_29_method_45_code 17 = .ok (.lstore 8, 2) := by decide +kernel
theorem d7_19 : decode jdk_29_method_45_code 19 = .ok (.lload_n 2, 1) := by decide +kernel
theorem d7_20 : decode jdk_29_method_45_code 20 = .ok (.ldc2_w 138, 3) := by decide +kernel
theorem d7_23 : decode jdk_29_method_45_code 23 = .ok (.land, 1) := by decide +kernel
theorem d7_24 : decode jdk_29_method_45_code 24 = .ok (.lstore 10, 2) := by decide +kernel
theorem d7_26 : decode jdk_29_method_45_code 26 = .ok (.lload 6, 2) := by decide +kernel
theorem d7_28 : decode jdk_29_method_45_code 28 = .ok (.lload 10, 2) := by decide +kernel
theorem d7_30 : decode jdk_29_method_45_code 30 = .ok (.lmul, 1) := by decide +kernel
theorem d7_31 : decode jdk_29_method_45_code 31 = .ok (.lstore 12, 2) := by decide +kernel
theorem d7_33 : decode jdk_29_method_45_code 33 = .ok (.lload 4, 2) := by decide +kernel
theorem d7_35 : decode jdk_29_method_45_code 35 = .ok (.lload 10, 2) := by decide +kernel
theorem d7_37 : decode jdk_29_method_45_code 37 = .ok (.lmul, 1) := by decide +kernel
theorem d7_38 : decode jdk_29_method_45_code 38 = .ok (.lload 12, 2) := by decide +kernel
theorem d7_40 : decode jdk_29_method_45_code 40 = .ok (.bipush 32, 2) := by decide +kernel
theorem d7_42 : decode jdk_29_method_45_code 42 = .ok (.lushr, 1) := by decide +kernel
theorem d7_43 : decode jdk_29_method_45_code 43 = .ok (.ladd, 1) := by decide +kernel
theorem d7_44 : decode jdk_29_method_45_code 44 = .ok (.lstore 14, 2) := by decide +kernel
theorem d7_46 : decode jdk_29_method_45_code 46 = .ok (.lload 14, 2) := by decide +kernel
theorem d7_48 : decode jdk_29_method_45_code 48 = .ok (.ldc2_w 138, 3) := by decide +kernel
theorem d7_51 : decode jdk_29_method_45_code 51 = .ok (.land, 1) := by decide +kernel
theorem d7_52 : decode jdk_29_method_45_code 52 = .ok (.lstore 16, 2) := by decide +kernel
theorem d7_54 : decode jdk_29_method_45_code 54 = .ok (.lload 14, 2) := by decide +kernel
theorem d7_56 : decode jdk_29_method_45_code 56 = .ok (.bipush 32, 2) := by decide +kernel
theorem d7_58 : decode jdk_29_method_45_code 58 = .ok (.lshr, 1) := by decide +kernel
theorem d7_59 : decode jdk_29_method_45_code 59 = .ok (.lstore 18, 2) := by decide +kernel
theorem d7_61 : decode jdk_29_method_45_code 61 = .ok (.lload 16, 2) := by decide +kernel
theorem d7_63 : decode jdk_29_method_45_code 63 = .ok (.lload 6, 2) := by decide +kernel
theorem d7_65 : decode jdk_29_method_45_code 65 = .ok (.lload 8, 2) := by decide +kernel
theorem d7_67 : decode jdk_29_method_45_code 67 = .ok (.lmul, 1) := by decide +kernel
theorem d7_68 : decode jdk_29_method_45_code 68 = .ok (.ladd, 1) := by decide +kernel
theorem d7_69 : decode jdk_29_method_45_code 69 = .ok (.lstore 16, 2) := by decide +kernel
theorem d7_71 : decode jdk_29_method_45_code 71 = .ok (.lload 4, 2) := by decide +kernel
theorem d7_73 : decode jdk_29_method_45_code 73 = .ok (.lload 8, 2) := by decide +kernel
theorem d7_75 : decode jdk_29_method_45_code 75 = .ok (.lmul, 1) := by decide +kernel
theorem d7_76 : decode jdk_29_method_45_code 76 = .ok (.lload 18, 2) := by decide +kernel
theorem d7_78 : decode jdk_29_method_45_code 78 = .ok (.ladd, 1) := by decide +kernel
theorem d7_79 : decode jdk_29_method_45_code 79 = .ok (.lload 16, 2) := by decide +kernel
theorem d7_81 : decode jdk_29_method_45_code 81 = .ok (.bipush 32, 2) := by decide +kernel
theorem d7_83 : decode jdk_29_method_45_code 83 = .ok (.lshr, 1) := by decide +kernel
theorem d7_84 : decode jdk_29_method_45_code 84 = .ok (.ladd, 1) := by decide +kernel
theorem d7_85 : decode jdk_29_method_45_code 85 = .ok (.lreturn, 1) := by decide +kernel

theorem ef_7 (m : MethodId) (x0 : Int64) (x1 : Int64) : entryFrame m #[(.long x0), (.long x1)] 20 = mkF m 0 #[.val (.long x0), .second, .val (.long x1), .second, .unset, .unset, .unset, .unset, .unset, .unset, .unset, .unset, .unset, .unset, .unset, .unset, .unset, .unset, .unset, .unset] [] := by first | (simp [entryFrame, mkF, argsToLocals, Value.category]; done) | rfl
theorem d8_0 : decode jdk_35_method_57_code 0 = .ok (.lload_n 0, 1) := by decide +kernel
theorem d8_1 : decode jdk_35_method_57_code 1 = .ok (.bipush 63, 2) := by decide +kernel
theorem d8_3 : decode jdk_35_method_57_code 3 = .ok (.lshr, 1) := by decide +kernel
theorem d8_4 : decode jdk_35_method_57_code 4 = .ok (.lload_n 0, 1) := by decide +kernel
theorem d8_5 : decode jdk_35_method_57_code 5 = .ok (.lneg, 1) := by decide +kernel
theorem d8_6 : decode jdk_35_method_57_code 6 = .ok (.bipush 63, 2) := by decide +kernel
theorem d8_8 : decode jdk_35_method_57_code 8 = .ok (.lushr, 1) := by decide +kernel
theorem d8_9 : decode jdk_35_method_57_code 9 = .ok (.lor, 1) := by decide +kernel
theorem d8_10 : decode jdk_35_method_57_code 10 = .ok (.l2i, 1) := by decide +kernel
theorem d8_11 : decode jdk_35_method_57_code 11 = .ok (.ireturn, 1) := by decide +kernel
theorem pn_8 : plainName "java/lang/Long" = true := by first | (simp [plainName, overriddenIn]; done) | decide +kernel
theorem ef_8 (m : MethodId) (x0 : Int64) : entryFrame m #[(.long x0)] 2 = mkF m 0 #[.val (.long x0), .second] [] := by first | (simp [entryFrame, mkF, argsToLocals, Value.category]; done) | rfl
theorem d9_0 : decode prog_1_method_13_code 0 = .ok (.lload_n 0, 1) := by decide +kernel
theorem d9_1 : decode prog_1_method_13_code 1 = .ok (.lload_n 2, 1) := by decide +kernel
theorem d9_2 : decode prog_1_method_13_code 2 = .ok (.ladd, 1) := by decide +kernel
theorem d9_3 : decode prog_1_method_13_code 3 = .ok (.lstore 4, 2) := by decide +kernel
theorem d9_5 : decode prog_1_method_13_code 5 = .ok (.lload_n 0, 1) := by decide +kernel
theorem d9_6 : decode prog_1_method_13_code 6 = .ok (.lload 4, 2) := by decide +kernel
theorem d9_8 : decode prog_1_method_13_code 8 = .ok (.lxor, 1) := by decide +kernel
theorem d9_9 : decode prog_1_method_13_code 9 = .ok (.lload_n 2, 1) := by decide +kernel
theorem d9_10 : decode prog_1_method_13_code 10 = .ok (.lload 4, 2) := by decide +kernel
theorem d9_12 : decode prog_1_method_13_code 12 = .ok (.lxor, 1) := by decide +kernel
theorem d9_13 : decode prog_1_method_13_code 13 = .ok (.land, 1) := by decide +kernel
theorem d9_14 : decode prog_1_method_13_code 14 = .ok (.lconst 0, 1) := by decide +kernel
theorem d9_15 : decode prog_1_method_13_code 15 = .ok (.lcmp, 1) := by decide +kernel
theorem d9_16 : decode prog_1_method_13_code 16 = .ok (.ifCond .lt 7, 3) := by decide +kernel
theorem d9_19 : decode prog_1_method_13_code 19 = .ok (.iconst 1, 1) := by decide +kernel
theorem d9_20 : decode prog_1_method_13_code 20 = .ok (.goto 4, 3) := by decide +kernel
theorem d9_23 : decode prog_1_method_13_code 23 = .ok (.iconst 0, 1) := by decide +kernel
theorem d9_24 : decode prog_1_method_13_code 24 = .ok (.ireturn, 1) := by decide +kernel
theorem pn_9 : plainName "com/example/syndicata/syndicata/Accrual" = true := by first | (simp [plainName, overriddenIn]; done) | decide +kernel
theorem ef_9 (m : MethodId) (x0 : Int64) (x1 : Int64) : entryFrame m #[(.long x0), (.long x1)] 6 = mkF m 0 #[.val (.long x0), .second, .val (.long x1), .second, .unset, .unset] [] := by first | (simp [entryFrame, mkF, argsToLocals, Value.category]; done) | rfl
theorem pn_0 : plainName "com/example/syndicata/syndicata/AccrualAccruedUnitsPinLaw" = true := by first | (simp [plainName, overriddenIn]; done) | decide +kernel
theorem ef_0 (m : MethodId) (x0 : Int64) (x1 : Int32) (x2 : Int32) (x3 : Int32) (x4 : Int32) (x5 : Int32) : entryFrame m #[(.long x0), (.int x1), (.int x2), (.int x3), (.int x4), (.int x5)] maxLocals = mkF m 0 #[.val (.long x0), .second, .val (.int x1), .val (.int x2), .val (.int x3), .val (.int x4), .val (.int x5), .unset, .unset, .unset, .unset, .unset, .unset, .unset, .unset, .unset, .unset, .unset, .unset, .unset, .unset, .unset, .unset, .unset, .unset, .unset, .unset, .unset, .unset, .unset, .unset, .unset] [] := by first | (simp [entryFrame, mkF, argsToLocals, Value.category, maxLocals]; done) | rfl
theorem pd_0 : parseMethodDescriptor "(II)I" = some ⟨[.int, .int], some .int⟩ := by decide +kernel
theorem pd_1 : parseMethodDescriptor "(J)J" = some ⟨[.long], some .long⟩ := by decide +kernel
theorem pd_2 : parseMethodDescriptor "(JJIJII)J" = some ⟨[.long, .long, .int, .long, .int, .int], some .long⟩ := by decide +kernel
theorem pd_3 : parseMethodDescriptor "(I)I" = some ⟨[.int], some .int⟩ := by decide +kernel
theorem pd_4 : parseMethodDescriptor "(I)J" = some ⟨[.int], some .long⟩ := by decide +kernel
theorem pd_5 : parseMethodDescriptor "(JJ)Z" = some ⟨[.long, .long], some .boolean⟩ := by decide +kernel
theorem pd_6 : parseMethodDescriptor "(JJ)J" = some ⟨[.long, .long], some .long⟩ := by decide +kernel
theorem pd_7 : parseMethodDescriptor "(J)I" = some ⟨[.long], some .int⟩ := by decide +kernel
def QJ (r : Int64) (h0 : Heap) (n0 : Nat) (v : Option Value) (h : Heap) (L : List Loc) : Prop := v = some (.long r) ∧ Fr n0 L ∧ h = h0
def QI (r : Int32) (h0 : Heap) (n0 : Nat) (v : Option Value) (h : Heap) (L : List Loc) : Prop := v = some (.int r) ∧ Fr n0 L ∧ h = h0
def maxF (a b : Int32) : Int32 := if a < b then b else a
def absL (a : Int64) : Int64 := if lcmpW a 0 < 0 then -a else a
def absI (a : Int32) : Int32 := if a < 0 then -a else a
set_option maxRecDepth 65536 in
set_option maxHeartbeats 40000000 in
theorem rm1_0 (l : Launch) (Z : State) (a0 : Array Value) (hw : ∀ d ∈ tables_1, d.before a0 Z = true) (ws : List Jvm.Cond) (a : Int32) (b : Int32)  (h0 : Heap) (n0 : Nat) (Z0 : n0 ≤ h0.size)  (hc2 : a < b) :
    MetFree l (⟨"java/lang/Math", "max", "(II)I"⟩ : MethodName) (head1 (Jvm.Cond.code (⟨"java/lang/Math", "max", "(II)I"⟩ : MethodName) jdk_29_method_65_code 2 (some .int) :: ws) ({ frames := 0, cells := 0, slots := 0, locals := 0 } : Room)) (fun aa U => aa = #[(.int a), (.int b)] ∧ Z.Warmed39 U.vm ∧ U.heap = h0) (fun _ _ _ _ _ => True) (fun _ U o U' => ∃ v L, o = .returned v ∧ QI (maxF a b) h0 n0 v U'.heap L ∧ FrameEnd U o U' L ({ frames := 0, cells := 0, slots := 0, locals := 0 } : Room).cells ({ frames := 0, cells := 0, slots := 0, locals := 0 } : Room).slots) := by
  refine MetFree.of_bodySF (Jvm.Free.JP.mathPlain rfl (by decide +kernel)) hisR ?_
  intro p e s m args below meth c s₁ Bd hml0 hP hK
  obtain ⟨rfl, hZ, hh⟩ := hP
  have hx := Bd.exec
  have hby := Bd.bytes
  have hml : c.maxLocals = 2 := hml0
  have hown : s.vm.findClass "java/lang/Math" = some m.cls := findClass_of_methodNamed Bd.named
  have hnm := (name_of_methodNamed Bd.named Bd.method).1
  have X0 : Stand p l e ({ frames := 0, cells := 0, slots := 0, locals := 0 } : Room) s m #[(.int a), (.int b)] below meth c s₁ [] 0 0 := Stand.of_body Bd
  have e0 : s₁.heap = h0 := by rw [← hh, Bd.state]; rfl
  have N0 := Fr.nil n0
  have pre0 : ∀ zz, Steps p.tables e below (s₁.setTop (mkF m 0 #[.val (.int a), .val (.int b)] [])) zz → Steps p.tables e below (s₁.setTop (entryFrame m #[(.int a), (.int b)] 2)) zz := fun zz k => castTop (ef_1 m a b) k
  obtain ⟨fs, hr, hrun, hended, hW, hsame⟩ := X0.leave (v := some (.int b)) (fun h => by rw [Bd.returns] at h; cases h)
  refine ⟨_, _, pre0 _ ?_, hrun, hended, _, _, rfl, ?_, ⟨_, rfl⟩, hW, hsame.mono (by decide) (by decide)⟩
  · show Steps p.tables e below (s₁.setTop (mkF m 0 #[.val (.int a), .val (.int b)] [])) _
    refine XS.iloadN X0.here hx rfl (hb hby d1_0) rfl ?_
    refine XS.iloadN X0.here hx rfl (hb hby d1_1) rfl ?_
    refine XS.icmpYes X0.here hx rfl (pc0 := 2) (pc' := 9) rfl (hb hby d1_2) rfl (tlt hc2).1 (by decide) (by decide) ?_
    refine XS.iloadN X0.here hx rfl (hb hby d1_9) rfl ?_
    show Steps p.tables e below (s₁.setTop (mkF m 10 #[.val (.int a), .val (.int b)] [(.int b)])) _
    exact retI X0 hx Bd.returns (hb hby d1_10) hr
  · show QI (maxF a b) h0 n0 _ s₁.heap _
    rw [e0]
    exact ⟨by rw [maxF, if_pos hc2], N0, rfl⟩
set_option maxRecDepth 65536 in
set_option maxHeartbeats 40000000 in
theorem rm1_1 (l : Launch) (Z : State) (a0 : Array Value) (hw : ∀ d ∈ tables_1, d.before a0 Z = true) (ws : List Jvm.Cond) (a : Int32) (b : Int32)  (h0 : Heap) (n0 : Nat) (Z0 : n0 ≤ h0.size)  (hc2 : ¬ (a < b)) :
    MetFree l (⟨"java/lang/Math", "max", "(II)I"⟩ : MethodName) (head1 (Jvm.Cond.code (⟨"java/lang/Math", "max", "(II)I"⟩ : MethodName) jdk_29_method_65_code 2 (some .int) :: ws) ({ frames := 0, cells := 0, slots := 0, locals := 0 } : Room)) (fun aa U => aa = #[(.int a), (.int b)] ∧ Z.Warmed39 U.vm ∧ U.heap = h0) (fun _ _ _ _ _ => True) (fun _ U o U' => ∃ v L, o = .returned v ∧ QI (maxF a b) h0 n0 v U'.heap L ∧ FrameEnd U o U' L ({ frames := 0, cells := 0, slots := 0, locals := 0 } : Room).cells ({ frames := 0, cells := 0, slots := 0, locals := 0 } : Room).slots) := by
  refine MetFree.of_bodySF (Jvm.Free.JP.mathPlain rfl (by decide +kernel)) hisR ?_
  intro p e s m args below meth c s₁ Bd hml0 hP hK
  obtain ⟨rfl, hZ, hh⟩ := hP
  have hx := Bd.exec
  have hby := Bd.bytes
  have hml : c.maxLocals = 2 := hml0
  have hown : s.vm.findClass "java/lang/Math" = some m.cls := findClass_of_methodNamed Bd.named
  have hnm := (name_of_methodNamed Bd.named Bd.method).1
  have X0 : Stand p l e ({ frames := 0, cells := 0, slots := 0, locals := 0 } : Room) s m #[(.int a), (.int b)] below meth c s₁ [] 0 0 := Stand.of_body Bd
  have e0 : s₁.heap = h0 := by rw [← hh, Bd.state]; rfl
  have N0 := Fr.nil n0
  have pre0 : ∀ zz, Steps p.tables e below (s₁.setTop (mkF m 0 #[.val (.int a), .val (.int b)] [])) zz → Steps p.tables e below (s₁.setTop (entryFrame m #[(.int a), (.int b)] 2)) zz := fun zz k => castTop (ef_1 m a b) k
  obtain ⟨fs, hr, hrun, hended, hW, hsame⟩ := X0.leave (v := some (.int a)) (fun h => by rw [Bd.returns] at h; cases h)
  refine ⟨_, _, pre0 _ ?_, hrun, hended, _, _, rfl, ?_, ⟨_, rfl⟩, hW, hsame.mono (by decide) (by decide)⟩
  · show Steps p.tables e below (s₁.setTop (mkF m 0 #[.val (.int a), .val (.int b)] [])) _
    refine XS.iloadN X0.here hx rfl (hb hby d1_0) rfl ?_
    refine XS.iloadN X0.here hx rfl (hb hby d1_1) rfl ?_
    refine XS.icmpNo X0.here hx rfl (hb hby d1_2) rfl (flt hc2).1 ?_
    refine XS.iloadN X0.here hx rfl (hb hby d1_5) rfl ?_
    refine XS.goto X0.here hx rfl (pc0 := 6) (pc' := 10) rfl (hb hby d1_6) (by decide) (by decide) ?_
    show Steps p.tables e below (s₁.setTop (mkF m 10 #[.val (.int a), .val (.int b)] [(.int a)])) _
    exact retI X0 hx Bd.returns (hb hby d1_10) hr
  · show QI (maxF a b) h0 n0 _ s₁.heap _
    rw [e0]
    exact ⟨by rw [maxF, if_neg hc2], N0, rfl⟩
set_option maxRecDepth 65536 in
set_option maxHeartbeats 40000000 in
theorem rm1 (l : Launch) (Z : State) (a0 : Array Value) (hw : ∀ d ∈ tables_1, d.before a0 Z = true) (ws : List Jvm.Cond) (a : Int32) (b : Int32)  (h0 : Heap) (n0 : Nat) (Z0 : n0 ≤ h0.size)   :
    MetFree l (⟨"java/lang/Math", "max", "(II)I"⟩ : MethodName) (head1 (Jvm.Cond.code (⟨"java/lang/Math", "max", "(II)I"⟩ : MethodName) jdk_29_method_65_code 2 (some .int) :: ws) ({ frames := 0, cells := 0, slots := 0, locals := 0 } : Room)) (fun aa U => aa = #[(.int a), (.int b)] ∧ Z.Warmed39 U.vm ∧ U.heap = h0) (fun _ _ _ _ _ => True) (fun _ U o U' => ∃ v L, o = .returned v ∧ QI (maxF a b) h0 n0 v U'.heap L ∧ FrameEnd U o U' L ({ frames := 0, cells := 0, slots := 0, locals := 0 } : Room).cells ({ frames := 0, cells := 0, slots := 0, locals := 0 } : Room).slots) := by
  by_cases h : a < b
  · exact rm1_0 l Z a0 hw ws a b h0 n0 Z0 h
  · exact rm1_1 l Z a0 hw ws a b h0 n0 Z0 h
set_option maxRecDepth 65536 in
set_option maxHeartbeats 40000000 in
theorem rm2_0 (l : Launch) (Z : State) (a0 : Array Value) (hw : ∀ d ∈ tables_1, d.before a0 Z = true) (ws : List Jvm.Cond) (a : Int64)  (h0 : Heap) (n0 : Nat) (Z0 : n0 ≤ h0.size)  (hc3 : ¬ ((lcmpW a (0 : Int64)) < (0 : Int32))) :
    MetFree l (⟨"java/lang/Math", "abs", "(J)J"⟩ : MethodName) (head1 (Jvm.Cond.code (⟨"java/lang/Math", "abs", "(J)J"⟩ : MethodName) jdk_29_method_61_code 2 (some .long) :: ws) ({ frames := 0, cells := 0, slots := 0, locals := 0 } : Room)) (fun aa U => aa = #[(.long a)] ∧ Z.Warmed39 U.vm ∧ U.heap = h0) (fun _ _ _ _ _ => True) (fun _ U o U' => ∃ v L, o = .returned v ∧ QJ (absL a) h0 n0 v U'.heap L ∧ FrameEnd U o U' L ({ frames := 0, cells := 0, slots := 0, locals := 0 } : Room).cells ({ frames := 0, cells := 0, slots := 0, locals := 0 } : Room).slots) := by
  refine MetFree.of_bodySF (Jvm.Free.JP.mathPlain rfl (by decide +kernel)) hisR ?_
  intro p e s m args below meth c s₁ Bd hml0 hP hK
  obtain ⟨rfl, hZ, hh⟩ := hP
  have hx := Bd.exec
  have hby := Bd.bytes
  have hml : c.maxLocals = 2 := hml0
  have hown : s.vm.findClass "java/lang/Math" = some m.cls := findClass_of_methodNamed Bd.named
  have hnm := (name_of_methodNamed Bd.named Bd.method).1
  have X0 : Stand p l e ({ frames := 0, cells := 0, slots := 0, locals := 0 } : Room) s m #[(.long a)] below meth c s₁ [] 0 0 := Stand.of_body Bd
  have e0 : s₁.heap = h0 := by rw [← hh, Bd.state]; rfl
  have N0 := Fr.nil n0
  have pre0 : ∀ zz, Steps p.tables e below (s₁.setTop (mkF m 0 #[.val (.long a), .second] [])) zz → Steps p.tables e below (s₁.setTop (entryFrame m #[(.long a)] 2)) zz := fun zz k => castTop (ef_2 m a) k
  obtain ⟨fs, hr, hrun, hended, hW, hsame⟩ := X0.leave (v := some (.long a)) (fun h => by rw [Bd.returns] at h; cases h)
  refine ⟨_, _, pre0 _ ?_, hrun, hended, _, _, rfl, ?_, ⟨_, rfl⟩, hW, hsame.mono (by decide) (by decide)⟩
  · show Steps p.tables e below (s₁.setTop (mkF m 0 #[.val (.long a), .second] [])) _
    refine XS.lloadN X0.here hx rfl (hb hby d2_0) rfl ?_
    refine XS.lconst X0.here hx rfl (hb hby d2_1) ?_
    refine XS.lcmp X0.here hx rfl (hb hby d2_2) rfl ?_
    refine XS.ifYes X0.here hx rfl (pc0 := 3) (pc' := 11) rfl (hb hby d2_3) rfl ((if0 _ _).trans (flt hc3).2.1) (by decide) (by decide) ?_
    refine XS.lloadN X0.here hx rfl (hb hby d2_11) rfl ?_
    show Steps p.tables e below (s₁.setTop (mkF m 12 #[.val (.long a), .second] [(.long a)])) _
    jvm_step X0.here [X0.here.top, hx, (hb hby d2_12), X0.method', Bd.returns, narrow]
    first | (intro acts; rw [hr _ acts rfl rfl rfl]) | rw [hr _ _ rfl rfl rfl]
    exact Steps.refl _
  · show QJ (absL a) h0 n0 _ s₁.heap _
    rw [e0]
    exact ⟨by rw [absL, if_neg hc3], N0, rfl⟩
set_option maxRecDepth 65536 in
set_option maxHeartbeats 40000000 in
theorem rm2_1 (l : Launch) (Z : State) (a0 : Array Value) (hw : ∀ d ∈ tables_1, d.before a0 Z = true) (ws : List Jvm.Cond) (a : Int64)  (h0 : Heap) (n0 : Nat) (Z0 : n0 ≤ h0.size)  (hc3 : (lcmpW a (0 : Int64)) < (0 : Int32)) :
    MetFree l (⟨"java/lang/Math", "abs", "(J)J"⟩ : MethodName) (head1 (Jvm.Cond.code (⟨"java/lang/Math", "abs", "(J)J"⟩ : MethodName) jdk_29_method_61_code 2 (some .long) :: ws) ({ frames := 0, cells := 0, slots := 0, locals := 0 } : Room)) (fun aa U => aa = #[(.long a)] ∧ Z.Warmed39 U.vm ∧ U.heap = h0) (fun _ _ _ _ _ => True) (fun _ U o U' => ∃ v L, o = .returned v ∧ QJ (absL a) h0 n0 v U'.heap L ∧ FrameEnd U o U' L ({ frames := 0, cells := 0, slots := 0, locals := 0 } : Room).cells ({ frames := 0, cells := 0, slots := 0, locals := 0 } : Room).slots) := by
  refine MetFree.of_bodySF (Jvm.Free.JP.mathPlain rfl (by decide +kernel)) hisR ?_
  intro p e s m args below meth c s₁ Bd hml0 hP hK
  obtain ⟨rfl, hZ, hh⟩ := hP
  have hx := Bd.exec
  have hby := Bd.bytes
  have hml : c.maxLocals = 2 := hml0
  have hown : s.vm.findClass "java/lang/Math" = some m.cls := findClass_of_methodNamed Bd.named
  have hnm := (name_of_methodNamed Bd.named Bd.method).1
  have X0 : Stand p l e ({ frames := 0, cells := 0, slots := 0, locals := 0 } : Room) s m #[(.long a)] below meth c s₁ [] 0 0 := Stand.of_body Bd
  have e0 : s₁.heap = h0 := by rw [← hh, Bd.state]; rfl
  have N0 := Fr.nil n0
  have pre0 : ∀ zz, Steps p.tables e below (s₁.setTop (mkF m 0 #[.val (.long a), .second] [])) zz → Steps p.tables e below (s₁.setTop (entryFrame m #[(.long a)] 2)) zz := fun zz k => castTop (ef_2 m a) k
  obtain ⟨fs, hr, hrun, hended, hW, hsame⟩ := X0.leave (v := some (.long (-a))) (fun h => by rw [Bd.returns] at h; cases h)
  refine ⟨_, _, pre0 _ ?_, hrun, hended, _, _, rfl, ?_, ⟨_, rfl⟩, hW, hsame.mono (by decide) (by decide)⟩
  · show Steps p.tables e below (s₁.setTop (mkF m 0 #[.val (.long a), .second] [])) _
    refine XS.lloadN X0.here hx rfl (hb hby d2_0) rfl ?_
    refine XS.lconst X0.here hx rfl (hb hby d2_1) ?_
    refine XS.lcmp X0.here hx rfl (hb hby d2_2) rfl ?_
    refine XS.ifNo X0.here hx rfl (hb hby d2_3) rfl ((if0 _ _).trans (tlt hc3).2.1) ?_
    refine XS.lloadN X0.here hx rfl (hb hby d2_6) rfl ?_
    refine XS.lneg X0.here hx rfl (hb hby d2_7) rfl ?_
    refine XS.goto X0.here hx rfl (pc0 := 8) (pc' := 12) rfl (hb hby d2_8) (by decide) (by decide) ?_
    show Steps p.tables e below (s₁.setTop (mkF m 12 #[.val (.long a), .second] [(.long (-a))])) _
    jvm_step X0.here [X0.here.top, hx, (hb hby d2_12), X0.method', Bd.returns, narrow]
    first | (intro acts; rw [hr _ acts rfl rfl rfl]) | rw [hr _ _ rfl rfl rfl]
    exact Steps.refl _
  · show QJ (absL a) h0 n0 _ s₁.heap _
    rw [e0]
    exact ⟨by rw [absL, if_pos hc3], N0, rfl⟩
set_option maxRecDepth 65536 in
set_option maxHeartbeats 40000000 in
theorem rm2 (l : Launch) (Z : State) (a0 : Array Value) (hw : ∀ d ∈ tables_1, d.before a0 Z = true) (ws : List Jvm.Cond) (a : Int64)  (h0 : Heap) (n0 : Nat) (Z0 : n0 ≤ h0.size)   :
    MetFree l (⟨"java/lang/Math", "abs", "(J)J"⟩ : MethodName) (head1 (Jvm.Cond.code (⟨"java/lang/Math", "abs", "(J)J"⟩ : MethodName) jdk_29_method_61_code 2 (some .long) :: ws) ({ frames := 0, cells := 0, slots := 0, locals := 0 } : Room)) (fun aa U => aa = #[(.long a)] ∧ Z.Warmed39 U.vm ∧ U.heap = h0) (fun _ _ _ _ _ => True) (fun _ U o U' => ∃ v L, o = .returned v ∧ QJ (absL a) h0 n0 v U'.heap L ∧ FrameEnd U o U' L ({ frames := 0, cells := 0, slots := 0, locals := 0 } : Room).cells ({ frames := 0, cells := 0, slots := 0, locals := 0 } : Room).slots) := by
  by_cases h : lcmpW a 0 < 0
  · exact rm2_1 l Z a0 hw ws a h0 n0 Z0 h
  · exact rm2_0 l Z a0 hw ws a h0 n0 Z0 h
set_option maxRecDepth 65536 in
set_option maxHeartbeats 40000000 in
theorem rm4_0 (l : Launch) (Z : State) (a0 : Array Value) (hw : ∀ d ∈ tables_1, d.before a0 Z = true) (ws : List Jvm.Cond) (a : Int32)  (h0 : Heap) (n0 : Nat) (Z0 : n0 ≤ h0.size)  (hc1 : ¬ (a < (0 : Int32))) :
    MetFree l (⟨"java/lang/Math", "abs", "(I)I"⟩ : MethodName) (head1 (Jvm.Cond.code (⟨"java/lang/Math", "abs", "(I)I"⟩ : MethodName) jdk_29_method_59_code 1 (some .int) :: ws) ({ frames := 0, cells := 0, slots := 0, locals := 0 } : Room)) (fun aa U => aa = #[(.int a)] ∧ Z.Warmed39 U.vm ∧ U.heap = h0) (fun _ _ _ _ _ => True) (fun _ U o U' => ∃ v L, o = .returned v ∧ QI (absI a) h0 n0 v U'.heap L ∧ FrameEnd U o U' L ({ frames := 0, cells := 0, slots := 0, locals := 0 } : Room).cells ({ frames := 0, cells := 0, slots := 0, locals := 0 } : Room).slots) := by
  refine MetFree.of_bodySF (Jvm.Free.JP.mathPlain rfl (by decide +kernel)) hisR ?_
  intro p e s m args below meth c s₁ Bd hml0 hP hK
  obtain ⟨rfl, hZ, hh⟩ := hP
  have hx := Bd.exec
  have hby := Bd.bytes
  have hml : c.maxLocals = 1 := hml0
  have hown : s.vm.findClass "java/lang/Math" = some m.cls := findClass_of_methodNamed Bd.named
  have hnm := (name_of_methodNamed Bd.named Bd.method).1
  have X0 : Stand p l e ({ frames := 0, cells := 0, slots := 0, locals := 0 } : Room) s m #[(.int a)] below meth c s₁ [] 0 0 := Stand.of_body Bd
  have e0 : s₁.heap = h0 := by rw [← hh, Bd.state]; rfl
  have N0 := Fr.nil n0
  have pre0 : ∀ zz, Steps p.tables e below (s₁.setTop (mkF m 0 #[.val (.int a)] [])) zz → Steps p.tables e below (s₁.setTop (entryFrame m #[(.int a)] 1)) zz := fun zz k => castTop (ef_4 m a) k
  obtain ⟨fs, hr, hrun, hended, hW, hsame⟩ := X0.leave (v := some (.int a)) (fun h => by rw [Bd.returns] at h; cases h)
  refine ⟨_, _, pre0 _ ?_, hrun, hended, _, _, rfl, ?_, ⟨_, rfl⟩, hW, hsame.mono (by decide) (by decide)⟩
  · show Steps p.tables e below (s₁.setTop (mkF m 0 #[.val (.int a)] [])) _
    refine XS.iloadN X0.here hx rfl (hb hby d4_0) rfl ?_
    refine XS.ifYes X0.here hx rfl (pc0 := 1) (pc' := 9) rfl (hb hby d4_1) rfl ((if0 _ _).trans (flt hc1).2.1) (by decide) (by decide) ?_
    refine XS.iloadN X0.here hx rfl (hb hby d4_9) rfl ?_
    show Steps p.tables e below (s₁.setTop (mkF m 10 #[.val (.int a)] [(.int a)])) _
    exact retI X0 hx Bd.returns (hb hby d4_10) hr
  · show QI (absI a) h0 n0 _ s₁.heap _
    rw [e0]
    exact ⟨by rw [absI, if_neg hc1], N0, rfl⟩
set_option maxRecDepth 65536 in
set_option maxHeartbeats 40000000 in
theorem rm4_1 (l : Launch) (Z : State) (a0 : Array Value) (hw : ∀ d ∈ tables_1, d.before a0 Z = true) (ws : List Jvm.Cond) (a : Int32)  (h0 : Heap) (n0 : Nat) (Z0 : n0 ≤ h0.size)  (hc1 : a < (0 : Int32)) :
    MetFree l (⟨"java/lang/Math", "abs", "(I)I"⟩ : MethodName) (head1 (Jvm.Cond.code (⟨"java/lang/Math", "abs", "(I)I"⟩ : MethodName) jdk_29_method_59_code 1 (some .int) :: ws) ({ frames := 0, cells := 0, slots := 0, locals := 0 } : Room)) (fun aa U => aa = #[(.int a)] ∧ Z.Warmed39 U.vm ∧ U.heap = h0) (fun _ _ _ _ _ => True) (fun _ U o U' => ∃ v L, o = .returned v ∧ QI (absI a) h0 n0 v U'.heap L ∧ FrameEnd U o U' L ({ frames := 0, cells := 0, slots := 0, locals := 0 } : Room).cells ({ frames := 0, cells := 0, slots := 0, locals := 0 } : Room).slots) := by
  refine MetFree.of_bodySF (Jvm.Free.JP.mathPlain rfl (by decide +kernel)) hisR ?_
  intro p e s m args below meth c s₁ Bd hml0 hP hK
  obtain ⟨rfl, hZ, hh⟩ := hP
  have hx := Bd.exec
  have hby := Bd.bytes
  have hml : c.maxLocals = 1 := hml0
  have hown : s.vm.findClass "java/lang/Math" = some m.cls := findClass_of_methodNamed Bd.named
  have hnm := (name_of_methodNamed Bd.named Bd.method).1
  have X0 : Stand p l e ({ frames := 0, cells := 0, slots := 0, locals := 0 } : Room) s m #[(.int a)] below meth c s₁ [] 0 0 := Stand.of_body Bd
  have e0 : s₁.heap = h0 := by rw [← hh, Bd.state]; rfl
  have N0 := Fr.nil n0
  have pre0 : ∀ zz, Steps p.tables e below (s₁.setTop (mkF m 0 #[.val (.int a)] [])) zz → Steps p.tables e below (s₁.setTop (entryFrame m #[(.int a)] 1)) zz := fun zz k => castTop (ef_4 m a) k
  obtain ⟨fs, hr, hrun, hended, hW, hsame⟩ := X0.leave (v := some (.int (-a))) (fun h => by rw [Bd.returns] at h; cases h)
  refine ⟨_, _, pre0 _ ?_, hrun, hended, _, _, rfl, ?_, ⟨_, rfl⟩, hW, hsame.mono (by decide) (by decide)⟩
  · show Steps p.tables e below (s₁.setTop (mkF m 0 #[.val (.int a)] [])) _
    refine XS.iloadN X0.here hx rfl (hb hby d4_0) rfl ?_
    refine XS.ifNo X0.here hx rfl (hb hby d4_1) rfl ((if0 _ _).trans (tlt hc1).2.1) ?_
    refine XS.iloadN X0.here hx rfl (hb hby d4_4) rfl ?_
    refine XS.ineg X0.here hx rfl (hb hby d4_5) rfl ?_
    refine XS.goto X0.here hx rfl (pc0 := 6) (pc' := 10) rfl (hb hby d4_6) (by decide) (by decide) ?_
    show Steps p.tables e below (s₁.setTop (mkF m 10 #[.val (.int a)] [(.int (-a))])) _
    exact retI X0 hx Bd.returns (hb hby d4_10) hr
  · show QI (absI a) h0 n0 _ s₁.heap _
    rw [e0]
    exact ⟨by rw [absI, if_pos hc1], N0, rfl⟩
set_option maxRecDepth 65536 in
set_option maxHeartbeats 40000000 in
theorem rm4 (l : Launch) (Z : State) (a0 : Array Value) (hw : ∀ d ∈ tables_1, d.before a0 Z = true) (ws : List Jvm.Cond) (a : Int32)  (h0 : Heap) (n0 : Nat) (Z0 : n0 ≤ h0.size)   :
    MetFree l (⟨"java/lang/Math", "abs", "(I)I"⟩ : MethodName) (head1 (Jvm.Cond.code (⟨"java/lang/Math", "abs", "(I)I"⟩ : MethodName) jdk_29_method_59_code 1 (some .int) :: ws) ({ frames := 0, cells := 0, slots := 0, locals := 0 } : Room)) (fun aa U => aa = #[(.int a)] ∧ Z.Warmed39 U.vm ∧ U.heap = h0) (fun _ _ _ _ _ => True) (fun _ U o U' => ∃ v L, o = .returned v ∧ QI (absI a) h0 n0 v U'.heap L ∧ FrameEnd U o U' L ({ frames := 0, cells := 0, slots := 0, locals := 0 } : Room).cells ({ frames := 0, cells := 0, slots := 0, locals := 0 } : Room).slots) := by
  by_cases h : a < 0
  · exact rm4_1 l Z a0 hw ws a h0 n0 Z0 h
  · exact rm4_0 l Z a0 hw ws a h0 n0 Z0 h
def mhX1 (a : Int64) : Int64 := a >>> ((32 : Int32) &&& 0x3f).toInt64
def mhX2 (a : Int64) : Int64 := a &&& (4294967295 : Int64)
def mhZ2 (a b : Int64) : Int64 := mhX2 a * mhX2 b
def mhT (a b : Int64) : Int64 := (mhX1 a * mhX2 b) + (((mhZ2 a b).toUInt64 >>> ((32 : Int32) &&& 0x3f).toInt64.toUInt64).toInt64)
def mhZ1 (a b : Int64) : Int64 := (mhT a b &&& (4294967295 : Int64)) + (mhX2 a * mhX1 b)
def mulHi (a b : Int64) : Int64 := ((mhX1 a * mhX1 b) + (mhT a b >>> ((32 : Int32) &&& 0x3f).toInt64)) + (mhZ1 a b >>> ((32 : Int32) &&& 0x3f).toInt64)
set_option maxRecDepth 65536 in
set_option maxHeartbeats 40000000 in
theorem rm7 (l : Launch) (Z : State) (a0 : Array Value) (hw : ∀ d ∈ tables_1, d.before a0 Z = true) (ws : List Jvm.Cond) (a : Int64) (b : Int64)  (h0 : Heap) (n0 : Nat) (Z0 : n0 ≤ h0.size)   :
    MetFree l (⟨"java/lang/Math", "multiplyHigh", "(JJ)J"⟩ : MethodName) (head1 (Jvm.Cond.code (⟨"java/lang/Math", "multiplyHigh", "(JJ)J"⟩ : MethodName) jdk_29_method_45_code 20 (some .long) :: ws) ({ frames := 0, cells := 0, slots := 0, locals := 0 } : Room)) (fun aa U => aa = #[(.long a), (.long b)] ∧ Z.Warmed39 U.vm ∧ U.heap = h0) (fun _ _ _ _ _ => True) (fun _ U o U' => ∃ v L, o = .returned v ∧ QJ (mulHi a b) h0 n0 v U'.heap L ∧ FrameEnd U o U' L ({ frames := 0, cells := 0, slots := 0, locals := 0 } : Room).cells ({ frames := 0, cells := 0, slots := 0, locals := 0 } : Room).slots) := by
  refine MetFree.of_bodySF (Jvm.Free.JP.mathPlain rfl (by decide +kernel)) hisR ?_
  intro p e s m args below meth c s₁ Bd hml0 hP hK
  obtain ⟨rfl, hZ, hh⟩ := hP
  have hx := Bd.exec
  have hby := Bd.bytes
  have hml : c.maxLocals = 20 := hml0
  have hown : s.vm.findClass "java/lang/Math" = some m.cls := findClass_of_methodNamed Bd.named
  have hnm := (name_of_methodNamed Bd.named Bd.method).1
  have X0 : Stand p l e ({ frames := 0, cells := 0, slots := 0, locals := 0 } : Room) s m #[(.long a), (.long b)] below meth c s₁ [] 0 0 := Stand.of_body Bd
  have e0 : s₁.heap = h0 := by rw [← hh, Bd.state]; rfl
  have N0 := Fr.nil n0
  have pre0 : ∀ zz, Steps p.tables e below (s₁.setTop (mkF m 0 #[.val (.long a), .second, .val (.long b), .second, .unset, .unset, .unset, .unset, .unset, .unset, .unset, .unset, .unset, .unset, .unset, .unset, .unset, .unset, .unset, .unset] [])) zz → Steps p.tables e below (s₁.setTop (entryFrame m #[(.long a), (.long b)] 20)) zz := fun zz k => castTop (ef_7 m a b) k
  obtain ⟨fs, hr, hrun, hended, hW, hsame⟩ := X0.leave (v := some (.long (mulHi a b))) (fun h => by rw [Bd.returns] at h; cases h)
  refine ⟨_, _, pre0 _ ?_, hrun, hended, _, _, rfl, ?_, ⟨_, rfl⟩, hW, hsame.mono (by decide) (by decide)⟩
  · show Steps p.tables e below (s₁.setTop (mkF m 0 #[.val (.long a), .second, .val (.long b), .second, .unset, .unset, .unset, .unset, .unset, .unset, .unset, .unset, .unset, .unset, .unset, .unset, .unset, .unset, .unset, .unset] [])) _
    refine XS.lloadN X0.here hx rfl (hb hby d7_0) rfl ?_
    refine XS.bipush X0.here hx rfl (hb hby d7_1) ?_
    refine XS.lshr X0.here hx rfl (hb hby d7_3) rfl ?_
    show Steps p.tables e below (s₁.setTop (mkF m 4 #[.val (.long a), .second, .val (.long b), .second, .unset, .unset, .unset, .unset, .unset, .unset, .unset, .unset, .unset, .unset, .unset, .unset, .unset, .unset, .unset, .unset] [(.long (mhX1 a))])) _
    refine XS.lstore X0.here hx rfl (hb hby d7_4) rfl (l' := #[.val (.long a), .second, .val (.long b), .second, .val (.long (mhX1 a)), .second, .unset, .unset, .unset, .unset, .unset, .unset, .unset, .unset, .unset, .unset, .unset, .unset, .unset, .unset]) rfl ?_
    refine XS.lloadN X0.here hx rfl (hb hby d7_6) rfl ?_
    refine X0.ldc2Long hx hown (mvT hZ (hw _ (List.mem_of_getElem? (i := 45) rfl))) (g := (mkF m 7 #[.val (.long a), .second, .val (.long b), .second, .val (.long (mhX1 a)), .second, .unset, .unset, .unset, .unset, .unset, .unset, .unset, .unset, .unset, .unset, .unset, .unset, .unset, .unset] [(.long a)])) rfl (hb hby d7_7) _ ?_
    refine XS.land X0.here hx rfl (hb hby d7_10) rfl ?_
    show Steps p.tables e below (s₁.setTop (mkF m 11 #[.val (.long a), .second, .val (.long b), .second, .val (.long (mhX1 a)), .second, .unset, .unset, .unset, .unset, .unset, .unset, .unset, .unset, .unset, .unset, .unset, .unset, .unset, .unset] [(.long (mhX2 a))])) _
    refine XS.lstore X0.here hx rfl (hb hby d7_11) rfl (l' := #[.val (.long a), .second, .val (.long b), .second, .val (.long (mhX1 a)), .second, .val (.long (mhX2 a)), .second, .unset, .unset, .unset, .unset, .unset, .unset, .unset, .unset, .unset, .unset, .unset, .unset]) rfl ?_
    refine XS.lloadN X0.here hx rfl (hb hby d7_13) rfl ?_
    refine XS.bipush X0.here hx rfl (hb hby d7_14) ?_
    refine XS.lshr X0.here hx rfl (hb hby d7_16) rfl ?_
    show Steps p.tables e below (s₁.setTop (mkF m 17 #[.val (.long a), .second, .val (.long b), .second, .val (.long (mhX1 a)), .second, .val (.long (mhX2 a)), .second, .unset, .unset, .unset, .unset, .unset, .unset, .unset, .unset, .unset, .unset, .unset, .unset] [(.long (mhX1 b))])) _
    refine XS.lstore X0.here hx rfl (hb hby d7_17) rfl (l' := #[.val (.long a), .second, .val (.long b), .second, .val (.long (mhX1 a)), .second, .val (.long (mhX2 a)), .second, .val (.long (mhX1 b)), .second, .unset, .unset, .unset, .unset, .unset, .unset, .unset, .unset, .unset, .unset]) rfl ?_
    refine XS.lloadN X0.here hx rfl (hb hby d7_19) rfl ?_
    refine X0.ldc2Long hx hown (mvT hZ (hw _ (List.mem_of_getElem? (i := 45) rfl))) (g := (mkF m 20 #[.val (.long a), .second, .val (.long b), .second, .val (.long (mhX1 a)), .second, .val (.long (mhX2 a)), .second, .val (.long (mhX1 b)), .second, .unset, .unset, .unset, .unset, .unset, .unset, .unset, .unset, .unset, .unset] [(.long b)])) rfl (hb hby d7_20) _ ?_
    refine XS.land X0.here hx rfl (hb hby d7_23) rfl ?_
    show Steps p.tables e below (s₁.setTop (mkF m 24 #[.val (.long a), .second, .val (.long b), .second, .val (.long (mhX1 a)), .second, .val (.long (mhX2 a)), .second, .val (.long (mhX1 b)), .second, .unset, .unset, .unset, .unset, .unset, .unset, .unset, .unset, .unset, .unset] [(.long (mhX2 b))])) _
    refine XS.lstore X0.here hx rfl (hb hby d7_24) rfl (l' := #[.val (.long a), .second, .val (.long b), .second, .val (.long (mhX1 a)), .second, .val (.long (mhX2 a)), .second, .val (.long (mhX1 b)), .second, .val (.long (mhX2 b)), .second, .unset, .unset, .unset, .unset, .unset, .unset, .unset, .unset]) rfl ?_
    refine XS.lload X0.here hx rfl (hb hby d7_26) rfl ?_
    refine XS.lload X0.here hx rfl (hb hby d7_28) rfl ?_
    refine XS.lmul X0.here hx rfl (hb hby d7_30) rfl ?_
    show Steps p.tables e below (s₁.setTop (mkF m 31 #[.val (.long a), .second, .val (.long b), .second, .val (.long (mhX1 a)), .second, .val (.long (mhX2 a)), .second, .val (.long (mhX1 b)), .second, .val (.long (mhX2 b)), .second, .unset, .unset, .unset, .unset, .unset, .unset, .unset, .unset] [(.long (mhZ2 a b))])) _
    refine XS.lstore X0.here hx rfl (hb hby d7_31) rfl (l' := #[.val (.long a), .second, .val (.long b), .second, .val (.long (mhX1 a)), .second, .val (.long (mhX2 a)), .second, .val (.long (mhX1 b)), .second, .val (.long (mhX2 b)), .second, .val (.long (mhZ2 a b)), .second, .unset, .unset, .unset, .unset, .unset, .unset]) rfl ?_
    refine XS.lload X0.here hx rfl (hb hby d7_33) rfl ?_
    refine XS.lload X0.here hx rfl (hb hby d7_35) rfl ?_
    refine XS.lmul X0.here hx rfl (hb hby d7_37) rfl ?_
    refine XS.lload X0.here hx rfl (hb hby d7_38) rfl ?_
    refine XS.bipush X0.here hx rfl (hb hby d7_40) ?_
    refine XS.lushr X0.here hx rfl (hb hby d7_42) rfl ?_
    refine XS.ladd X0.here hx rfl (hb hby d7_43) rfl ?_
    show Steps p.tables e below (s₁.setTop (mkF m 44 #[.val (.long a), .second, .val (.long b), .second, .val (.long (mhX1 a)), .second, .val (.long (mhX2 a)), .second, .val (.long (mhX1 b)), .second, .val (.long (mhX2 b)), .second, .val (.long (mhZ2 a b)), .second, .unset, .unset, .unset, .unset, .unset, .unset] [(.long (mhT a b))])) _
    refine XS.lstore X0.here hx rfl (hb hby d7_44) rfl (l' := #[.val (.long a), .second, .val (.long b), .second, .val (.long (mhX1 a)), .second, .val (.long (mhX2 a)), .second, .val (.long (mhX1 b)), .second, .val (.long (mhX2 b)), .second, .val (.long (mhZ2 a b)), .second, .val (.long (mhT a b)), .second, .unset, .unset, .unset, .unset]) rfl ?_
    refine XS.lload X0.here hx rfl (hb hby d7_46) rfl ?_
    refine X0.ldc2Long hx hown (mvT hZ (hw _ (List.mem_of_getElem? (i := 45) rfl))) (g := (mkF m 48 #[.val (.long a), .second, .val (.long b), .second, .val (.long (mhX1 a)), .second, .val (.long (mhX2 a)), .second, .val (.long (mhX1 b)), .second, .val (.long (mhX2 b)), .second, .val (.long (mhZ2 a b)), .second, .val (.long (mhT a b)), .second, .unset, .unset, .unset, .unset] [(.long (mhT a b))])) rfl (hb hby d7_48) _ ?_
    refine XS.land X0.here hx rfl (hb hby d7_51) rfl ?_
    refine XS.lstore X0.here hx rfl (hb hby d7_52) rfl (l' := #[.val (.long a), .second, .val (.long b), .second, .val (.long (mhX1 a)), .second, .val (.long (mhX2 a)), .second, .val (.long (mhX1 b)), .second, .val (.long (mhX2 b)), .second, .val (.long (mhZ2 a b)), .second, .val (.long (mhT a b)), .second, .val (.long ((mhT a b) &&& (4294967295 : Int64))), .second, .unset, .unset]) rfl ?_
    refine XS.lload X0.here hx rfl (hb hby d7_54) rfl ?_
    refine XS.bipush X0.here hx rfl (hb hby d7_56) ?_
    refine XS.lshr X0.here hx rfl (hb hby d7_58) rfl ?_
    show Steps p.tables e below (s₁.setTop (mkF m 59 #[.val (.long a), .second, .val (.long b), .second, .val (.long (mhX1 a)), .second, .val (.long (mhX2 a)), .second, .val (.long (mhX1 b)), .second, .val (.long (mhX2 b)), .second, .val (.long (mhZ2 a b)), .second, .val (.long (mhT a b)), .second, .val (.long ((mhT a b) &&& (4294967295 : Int64))), .second, .unset, .unset] [(.long ((mhT a b) >>> ((32 : Int32) &&& 0x3f).toInt64))])) _
    refine XS.lstore X0.here hx rfl (hb hby d7_59) rfl (l' := #[.val (.long a), .second, .val (.long b), .second, .val (.long (mhX1 a)), .second, .val (.long (mhX2 a)), .second, .val (.long (mhX1 b)), .second, .val (.long (mhX2 b)), .second, .val (.long (mhZ2 a b)), .second, .val (.long (mhT a b)), .second, .val (.long ((mhT a b) &&& (4294967295 : Int64))), .second, .val (.long ((mhT a b) >>> ((32 : Int32) &&& 0x3f).toInt64)), .second]) rfl ?_
    refine XS.lload X0.here hx rfl (hb hby d7_61) rfl ?_
    refine XS.lload X0.here hx rfl (hb hby d7_63) rfl ?_
    refine XS.lload X0.here hx rfl (hb hby d7_65) rfl ?_
    refine XS.lmul X0.here hx rfl (hb hby d7_67) rfl ?_
    refine XS.ladd X0.here hx rfl (hb hby d7_68) rfl ?_
    show Steps p.tables e below (s₁.setTop (mkF m 69 #[.val (.long a), .second, .val (.long b), .second, .val (.long (mhX1 a)), .second, .val (.long (mhX2 a)), .second, .val (.long (mhX1 b)), .second, .val (.long (mhX2 b)), .second, .val (.long (mhZ2 a b)), .second, .val (.long (mhT a b)), .second, .val (.long ((mhT a b) &&& (4294967295 : Int64))), .second, .val (.long ((mhT a b) >>> ((32 : Int32) &&& 0x3f).toInt64)), .second] [(.long (mhZ1 a b))])) _
    refine XS.lstore X0.here hx rfl (hb hby d7_69) rfl (l' := #[.val (.long a), .second, .val (.long b), .second, .val (.long (mhX1 a)), .second, .val (.long (mhX2 a)), .second, .val (.long (mhX1 b)), .second, .val (.long (mhX2 b)), .second, .val (.long (mhZ2 a b)), .second, .val (.long (mhT a b)), .second, .val (.long (mhZ1 a b)), .second, .val (.long ((mhT a b) >>> ((32 : Int32) &&& 0x3f).toInt64)), .second]) rfl ?_
    refine XS.lload X0.here hx rfl (hb hby d7_71) rfl ?_
    refine XS.lload X0.here hx rfl (hb hby d7_73) rfl ?_
    refine XS.lmul X0.here hx rfl (hb hby d7_75) rfl ?_
    refine XS.lload X0.here hx rfl (hb hby d7_76) rfl ?_
    refine XS.ladd X0.here hx rfl (hb hby d7_78) rfl ?_
    refine XS.lload X0.here hx rfl (hb hby d7_79) rfl ?_
    refine XS.bipush X0.here hx rfl (hb hby d7_81) ?_
    show Steps p.tables e below (s₁.setTop (mkF m 83 #[.val (.long a), .second, .val (.long b), .second, .val (.long (mhX1 a)), .second, .val (.long (mhX2 a)), .second, .val (.long (mhX1 b)), .second, .val (.long (mhX2 b)), .second, .val (.long (mhZ2 a b)), .second, .val (.long (mhT a b)), .second, .val (.long (mhZ1 a b)), .second, .val (.long ((mhT a b) >>> ((32 : Int32) &&& 0x3f).toInt64)), .second] [(.int (32 : Int32)), (.long (mhZ1 a b)), (.long (((mhX1 a) * (mhX1 b)) + ((mhT a b) >>> ((32 : Int32) &&& 0x3f).toInt64)))])) _
    refine XS.lshr X0.here hx rfl (hb hby d7_83) rfl ?_
    refine XS.ladd X0.here hx rfl (hb hby d7_84) rfl ?_
    show Steps p.tables e below (s₁.setTop (mkF m 85 #[.val (.long a), .second, .val (.long b), .second, .val (.long (mhX1 a)), .second, .val (.long (mhX2 a)), .second, .val (.long (mhX1 b)), .second, .val (.long (mhX2 b)), .second, .val (.long (mhZ2 a b)), .second, .val (.long (mhT a b)), .second, .val (.long (mhZ1 a b)), .second, .val (.long ((mhT a b) >>> ((32 : Int32) &&& 0x3f).toInt64)), .second] [(.long (mulHi a b))])) _
    jvm_step X0.here [X0.here.top, hx, (hb hby d7_85), X0.method', Bd.returns, narrow]
    first | (intro acts; rw [hr _ acts rfl rfl rfl]) | rw [hr _ _ rfl rfl rfl]
    exact Steps.refl _
  · show QJ (mulHi a b) h0 n0 _ s₁.heap _
    rw [e0]
    exact ⟨rfl, N0, rfl⟩
def sigF (a : Int64) : Int32 := ((a >>> ((63 : Int32) &&& 0x3f).toInt64) ||| (((-a).toUInt64 >>> ((63 : Int32) &&& 0x3f).toInt64.toUInt64).toInt64)).toInt32
set_option maxRecDepth 65536 in
set_option maxHeartbeats 40000000 in
theorem rm8 (l : Launch) (Z : State) (a0 : Array Value) (hw : ∀ d ∈ tables_1, d.before a0 Z = true) (ws : List Jvm.Cond) (a : Int64)  (h0 : Heap) (n0 : Nat) (Z0 : n0 ≤ h0.size)   :
    MetFree l (⟨"java/lang/Long", "signum", "(J)I"⟩ : MethodName) (head1 (Jvm.Cond.code (⟨"java/lang/Long", "signum", "(J)I"⟩ : MethodName) jdk_35_method_57_code 2 (some .int) :: ws) ({ frames := 0, cells := 0, slots := 0, locals := 0 } : Room)) (fun aa U => aa = #[(.long a)] ∧ Z.Warmed39 U.vm ∧ U.heap = h0) (fun _ _ _ _ _ => True) (fun _ U o U' => ∃ v L, o = .returned v ∧ QI (sigF a) h0 n0 v U'.heap L ∧ FrameEnd U o U' L ({ frames := 0, cells := 0, slots := 0, locals := 0 } : Room).cells ({ frames := 0, cells := 0, slots := 0, locals := 0 } : Room).slots) := by
  refine MetFree.of_bodySF (plainFor_of_name pn_8) hisR ?_
  intro p e s m args below meth c s₁ Bd hml0 hP hK
  obtain ⟨rfl, hZ, hh⟩ := hP
  have hx := Bd.exec
  have hby := Bd.bytes
  have hml : c.maxLocals = 2 := hml0
  have hown : s.vm.findClass "java/lang/Long" = some m.cls := findClass_of_methodNamed Bd.named
  have hnm := (name_of_methodNamed Bd.named Bd.method).1
  have X0 : Stand p l e ({ frames := 0, cells := 0, slots := 0, locals := 0 } : Room) s m #[(.long a)] below meth c s₁ [] 0 0 := Stand.of_body Bd
  have e0 : s₁.heap = h0 := by rw [← hh, Bd.state]; rfl
  have N0 := Fr.nil n0
  have pre0 : ∀ zz, Steps p.tables e below (s₁.setTop (mkF m 0 #[.val (.long a), .second] [])) zz → Steps p.tables e below (s₁.setTop (entryFrame m #[(.long a)] 2)) zz := fun zz k => castTop (ef_8 m a) k
  obtain ⟨fs, hr, hrun, hended, hW, hsame⟩ := X0.leave (v := some (.int (sigF a))) (fun h => by rw [Bd.returns] at h; cases h)
  refine ⟨_, _, pre0 _ ?_, hrun, hended, _, _, rfl, ?_, ⟨_, rfl⟩, hW, hsame.mono (by decide) (by decide)⟩
  · show Steps p.tables e below (s₁.setTop (mkF m 0 #[.val (.long a), .second] [])) _
    refine XS.lloadN X0.here hx rfl (hb hby d8_0) rfl ?_
    refine XS.bipush X0.here hx rfl (hb hby d8_1) ?_
    refine XS.lshr X0.here hx rfl (hb hby d8_3) rfl ?_
    refine XS.lloadN X0.here hx rfl (hb hby d8_4) rfl ?_
    refine XS.lneg X0.here hx rfl (hb hby d8_5) rfl ?_
    refine XS.bipush X0.here hx rfl (hb hby d8_6) ?_
    refine XS.lushr X0.here hx rfl (hb hby d8_8) rfl ?_
    refine XS.lor X0.here hx rfl (hb hby d8_9) rfl ?_
    show Steps p.tables e below (s₁.setTop (mkF m 10 #[.val (.long a), .second] [(.long ((a >>> ((63 : Int32) &&& 0x3f).toInt64) ||| (((-a).toUInt64 >>> ((63 : Int32) &&& 0x3f).toInt64.toUInt64).toInt64)))])) _
    refine XS.l2i X0.here hx rfl (hb hby d8_10) rfl ?_
    show Steps p.tables e below (s₁.setTop (mkF m 11 #[.val (.long a), .second] [(.int (sigF a))])) _
    exact retI X0 hx Bd.returns (hb hby d8_11) hr
  · show QI (sigF a) h0 n0 _ s₁.heap _
    rw [e0]
    exact ⟨rfl, N0, rfl⟩
def sumF (a b : Int64) : Int32 := if lcmpW ((a ^^^ (a + b)) &&& (b ^^^ (a + b))) 0 < 0 then 0 else 1
set_option maxRecDepth 65536 in
set_option maxHeartbeats 40000000 in
theorem rm9_0 (l : Launch) (Z : State) (a0 : Array Value) (hw : ∀ d ∈ tables_1, d.before a0 Z = true) (ws : List Jvm.Cond) (a : Int64) (b : Int64)  (h0 : Heap) (n0 : Nat) (Z0 : n0 ≤ h0.size)  (hc16 : (lcmpW ((a ^^^ (a + b)) &&& (b ^^^ (a + b))) (0 : Int64)) < (0 : Int32)) :
    MetFree l (⟨"com/example/syndicata/syndicata/Accrual", "sumFits", "(JJ)Z"⟩ : MethodName) (head1 (Jvm.Cond.code (⟨"com/example/syndicata/syndicata/Accrual", "sumFits", "(JJ)Z"⟩ : MethodName) prog_1_method_13_code 6 (some .boolean) :: ws) ({ frames := 0, cells := 0, slots := 0, locals := 0 } : Room)) (fun aa U => aa = #[(.long a), (.long b)] ∧ Z.Warmed39 U.vm ∧ U.heap = h0) (fun _ _ _ _ _ => True) (fun _ U o U' => ∃ v L, o = .returned v ∧ QI (sumF a b) h0 n0 v U'.heap L ∧ FrameEnd U o U' L ({ frames := 0, cells := 0, slots := 0, locals := 0 } : Room).cells ({ frames := 0, cells := 0, slots := 0, locals := 0 } : Room).slots) := by
  refine MetFree.of_bodySF (plainFor_of_name pn_9) hisR ?_
  intro p e s m args below meth c s₁ Bd hml0 hP hK
  obtain ⟨rfl, hZ, hh⟩ := hP
  have hx := Bd.exec
  have hby := Bd.bytes
  have hml : c.maxLocals = 6 := hml0
  have hown : s.vm.findClass "com/example/syndicata/syndicata/Accrual" = some m.cls := findClass_of_methodNamed Bd.named
  have hnm := (name_of_methodNamed Bd.named Bd.method).1
  have X0 : Stand p l e ({ frames := 0, cells := 0, slots := 0, locals := 0 } : Room) s m #[(.long a), (.long b)] below meth c s₁ [] 0 0 := Stand.of_body Bd
  have e0 : s₁.heap = h0 := by rw [← hh, Bd.state]; rfl
  have N0 := Fr.nil n0
  have pre0 : ∀ zz, Steps p.tables e below (s₁.setTop (mkF m 0 #[.val (.long a), .second, .val (.long b), .second, .unset, .unset] [])) zz → Steps p.tables e below (s₁.setTop (entryFrame m #[(.long a), (.long b)] 6)) zz := fun zz k => castTop (ef_9 m a b) k
  obtain ⟨fs, hr, hrun, hended, hW, hsame⟩ := X0.leave (v := some (.int (0 : Int32))) (fun h => by rw [Bd.returns] at h; cases h)
  refine ⟨_, _, pre0 _ ?_, hrun, hended, _, _, rfl, ?_, ⟨_, rfl⟩, hW, hsame.mono (by decide) (by decide)⟩
  · show Steps p.tables e below (s₁.setTop (mkF m 0 #[.val (.long a), .second, .val (.long b), .second, .unset, .unset] [])) _
    refine XS.lloadN X0.here hx rfl (hb hby d9_0) rfl ?_
    refine XS.lloadN X0.here hx rfl (hb hby d9_1) rfl ?_
    refine XS.ladd X0.here hx rfl (hb hby d9_2) rfl ?_
    refine XS.lstore X0.here hx rfl (hb hby d9_3) rfl (l' := #[.val (.long a), .second, .val (.long b), .second, .val (.long (a + b)), .second]) rfl ?_
    refine XS.lloadN X0.here hx rfl (hb hby d9_5) rfl ?_
    refine XS.lload X0.here hx rfl (hb hby d9_6) rfl ?_
    refine XS.lxor X0.here hx rfl (hb hby d9_8) rfl ?_
    refine XS.lloadN X0.here hx rfl (hb hby d9_9) rfl ?_
    show Steps p.tables e below (s₁.setTop (mkF m 10 #[.val (.long a), .second, .val (.long b), .second, .val (.long (a + b)), .second] [(.long b), (.long (a ^^^ (a + b)))])) _
    refine XS.lload X0.here hx rfl (hb hby d9_10) rfl ?_
    refine XS.lxor X0.here hx rfl (hb hby d9_12) rfl ?_
    refine XS.land X0.here hx rfl (hb hby d9_13) rfl ?_
    refine XS.lconst X0.here hx rfl (hb hby d9_14) ?_
    refine XS.lcmp X0.here hx rfl (hb hby d9_15) rfl ?_
    refine XS.ifYes X0.here hx rfl (pc0 := 16) (pc' := 23) rfl (hb hby d9_16) rfl ((if0 _ _).trans (tlt hc16).1) (by decide) (by decide) ?_
    refine XS.iconst X0.here hx rfl (hb hby d9_23) ?_
    show Steps p.tables e below (s₁.setTop (mkF m 24 #[.val (.long a), .second, .val (.long b), .second, .val (.long (a + b)), .second] [(.int (0 : Int32))])) _
    exact retN X0 hx (t := .boolean) Bd.returns (by simp) (hb hby d9_24) hr
  · show QI (sumF a b) h0 n0 _ s₁.heap _
    rw [e0]
    exact ⟨by rw [sumF, if_pos hc16], N0, rfl⟩
set_option maxRecDepth 65536 in
set_option maxHeartbeats 40000000 in
theorem rm9_1 (l : Launch) (Z : State) (a0 : Array Value) (hw : ∀ d ∈ tables_1, d.before a0 Z = true) (ws : List Jvm.Cond) (a : Int64) (b : Int64)  (h0 : Heap) (n0 : Nat) (Z0 : n0 ≤ h0.size)  (hc16 : ¬ ((lcmpW ((a ^^^ (a + b)) &&& (b ^^^ (a + b))) (0 : Int64)) < (0 : Int32))) :
    MetFree l (⟨"com/example/syndicata/syndicata/Accrual", "sumFits", "(JJ)Z"⟩ : MethodName) (head1 (Jvm.Cond.code (⟨"com/example/syndicata/syndicata/Accrual", "sumFits", "(JJ)Z"⟩ : MethodName) prog_1_method_13_code 6 (some .boolean) :: ws) ({ frames := 0, cells := 0, slots := 0, locals := 0 } : Room)) (fun aa U => aa = #[(.long a), (.long b)] ∧ Z.Warmed39 U.vm ∧ U.heap = h0) (fun _ _ _ _ _ => True) (fun _ U o U' => ∃ v L, o = .returned v ∧ QI (sumF a b) h0 n0 v U'.heap L ∧ FrameEnd U o U' L ({ frames := 0, cells := 0, slots := 0, locals := 0 } : Room).cells ({ frames := 0, cells := 0, slots := 0, locals := 0 } : Room).slots) := by
  refine MetFree.of_bodySF (plainFor_of_name pn_9) hisR ?_
  intro p e s m args below meth c s₁ Bd hml0 hP hK
  obtain ⟨rfl, hZ, hh⟩ := hP
  have hx := Bd.exec
  have hby := Bd.bytes
  have hml : c.maxLocals = 6 := hml0
  have hown : s.vm.findClass "com/example/syndicata/syndicata/Accrual" = some m.cls := findClass_of_methodNamed Bd.named
  have hnm := (name_of_methodNamed Bd.named Bd.method).1
  have X0 : Stand p l e ({ frames := 0, cells := 0, slots := 0, locals := 0 } : Room) s m #[(.long a), (.long b)] below meth c s₁ [] 0 0 := Stand.of_body Bd
  have e0 : s₁.heap = h0 := by rw [← hh, Bd.state]; rfl
  have N0 := Fr.nil n0
  have pre0 : ∀ zz, Steps p.tables e below (s₁.setTop (mkF m 0 #[.val (.long a), .second, .val (.long b), .second, .unset, .unset] [])) zz → Steps p.tables e below (s₁.setTop (entryFrame m #[(.long a), (.long b)] 6)) zz := fun zz k => castTop (ef_9 m a b) k
  obtain ⟨fs, hr, hrun, hended, hW, hsame⟩ := X0.leave (v := some (.int (1 : Int32))) (fun h => by rw [Bd.returns] at h; cases h)
  refine ⟨_, _, pre0 _ ?_, hrun, hended, _, _, rfl, ?_, ⟨_, rfl⟩, hW, hsame.mono (by decide) (by decide)⟩
  · show Steps p.tables e below (s₁.setTop (mkF m 0 #[.val (.long a), .second, .val (.long b), .second, .unset, .unset] [])) _
    refine XS.lloadN X0.here hx rfl (hb hby d9_0) rfl ?_
    refine XS.lloadN X0.here hx rfl (hb hby d9_1) rfl ?_
    refine XS.ladd X0.here hx rfl (hb hby d9_2) rfl ?_
    refine XS.lstore X0.here hx rfl (hb hby d9_3) rfl (l' := #[.val (.long a), .second, .val (.long b), .second, .val (.long (a + b)), .second]) rfl ?_
    refine XS.lloadN X0.here hx rfl (hb hby d9_5) rfl ?_
    refine XS.lload X0.here hx rfl (hb hby d9_6) rfl ?_
    refine XS.lxor X0.here hx rfl (hb hby d9_8) rfl ?_
    refine XS.lloadN X0.here hx rfl (hb hby d9_9) rfl ?_
    show Steps p.tables e below (s₁.setTop (mkF m 10 #[.val (.long a), .second, .val (.long b), .second, .val (.long (a + b)), .second] [(.long b), (.long (a ^^^ (a + b)))])) _
    refine XS.lload X0.here hx rfl (hb hby d9_10) rfl ?_
    refine XS.lxor X0.here hx rfl (hb hby d9_12) rfl ?_
    refine XS.land X0.here hx rfl (hb hby d9_13) rfl ?_
    refine XS.lconst X0.here hx rfl (hb hby d9_14) ?_
    refine XS.lcmp X0.here hx rfl (hb hby d9_15) rfl ?_
    refine XS.ifNo X0.here hx rfl (hb hby d9_16) rfl ((if0 _ _).trans (flt hc16).1) ?_
    refine XS.iconst X0.here hx rfl (hb hby d9_19) ?_
    refine XS.goto X0.here hx rfl (pc0 := 20) (pc' := 24) rfl (hb hby d9_20) (by decide) (by decide) ?_
    show Steps p.tables e below (s₁.setTop (mkF m 24 #[.val (.long a), .second, .val (.long b), .second, .val (.long (a + b)), .second] [(.int (1 : Int32))])) _
    exact retN X0 hx (t := .boolean) Bd.returns (by simp) (hb hby d9_24) hr
  · show QI (sumF a b) h0 n0 _ s₁.heap _
    rw [e0]
    exact ⟨by rw [sumF, if_neg hc16], N0, rfl⟩
set_option maxRecDepth 65536 in
set_option maxHeartbeats 40000000 in
theorem rm9 (l : Launch) (Z : State) (a0 : Array Value) (hw : ∀ d ∈ tables_1, d.before a0 Z = true) (ws : List Jvm.Cond) (a : Int64) (b : Int64)  (h0 : Heap) (n0 : Nat) (Z0 : n0 ≤ h0.size)   :
    MetFree l (⟨"com/example/syndicata/syndicata/Accrual", "sumFits", "(JJ)Z"⟩ : MethodName) (head1 (Jvm.Cond.code (⟨"com/example/syndicata/syndicata/Accrual", "sumFits", "(JJ)Z"⟩ : MethodName) prog_1_method_13_code 6 (some .boolean) :: ws) ({ frames := 0, cells := 0, slots := 0, locals := 0 } : Room)) (fun aa U => aa = #[(.long a), (.long b)] ∧ Z.Warmed39 U.vm ∧ U.heap = h0) (fun _ _ _ _ _ => True) (fun _ U o U' => ∃ v L, o = .returned v ∧ QI (sumF a b) h0 n0 v U'.heap L ∧ FrameEnd U o U' L ({ frames := 0, cells := 0, slots := 0, locals := 0 } : Room).cells ({ frames := 0, cells := 0, slots := 0, locals := 0 } : Room).slots) := by
  by_cases h : lcmpW ((a ^^^ (a + b)) &&& (b ^^^ (a + b))) 0 < 0
  · exact rm9_0 l Z a0 hw ws a b h0 n0 Z0 h
  · exact rm9_1 l Z a0 hw ws a b h0 n0 Z0 h
def proF (a b : Int64) : Int32 := if lcmpW (mulHi a b) ((a * b) >>> ((63 : Int32) &&& 0x3f).toInt64) = 0 then 1 else 0
set_option maxRecDepth 65536 in
set_option maxHeartbeats 40000000 in
theorem rm6_0 (l : Launch) (Z : State) (a0 : Array Value) (hw : ∀ d ∈ tables_1, d.before a0 Z = true) (ws : List Jvm.Cond) (a : Int64) (b : Int64)  (h0 : Heap) (n0 : Nat) (Z0 : n0 ≤ h0.size)  (hc12 : ¬ ((lcmpW (mulHi a b) ((a * b) >>> ((63 : Int32) &&& 0x3f).toInt64)) = (0 : Int32))) :
    MetFree l (⟨"com/example/syndicata/syndicata/Accrual", "productFits", "(JJ)Z"⟩ : MethodName) (head1 (Jvm.Cond.code (⟨"com/example/syndicata/syndicata/Accrual", "productFits", "(JJ)Z"⟩ : MethodName) prog_1_method_12_code 4 (some .boolean) :: ws) ({ frames := 1, cells := 0, slots := 0, locals := 31 } : Room)) (fun aa U => aa = #[(.long a), (.long b)] ∧ Z.Warmed39 U.vm ∧ U.heap = h0) (fun _ _ _ _ _ => True) (fun _ U o U' => ∃ v L, o = .returned v ∧ QI (proF a b) h0 n0 v U'.heap L ∧ FrameEnd U o U' L ({ frames := 1, cells := 0, slots := 0, locals := 31 } : Room).cells ({ frames := 1, cells := 0, slots := 0, locals := 31 } : Room).slots) := by
  refine MetFree.of_bodySF (plainFor_of_name pn_6) hisR ?_
  intro p e s m args below meth c s₁ Bd hml0 hP hK
  obtain ⟨rfl, hZ, hh⟩ := hP
  have hx := Bd.exec
  have hby := Bd.bytes
  have hml : c.maxLocals = 4 := hml0
  have hown : s.vm.findClass "com/example/syndicata/syndicata/Accrual" = some m.cls := findClass_of_methodNamed Bd.named
  have hnm := (name_of_methodNamed Bd.named Bd.method).1
  have X0 : Stand p l e ({ frames := 1, cells := 0, slots := 0, locals := 31 } : Room) s m #[(.long a), (.long b)] below meth c s₁ [] 0 0 := Stand.of_body Bd
  have e0 : s₁.heap = h0 := by rw [← hh, Bd.state]; rfl
  have N0 := Fr.nil n0
  have pre0 : ∀ zz, Steps p.tables e below (s₁.setTop (mkF m 0 #[.val (.long a), .second, .val (.long b), .second] [])) zz → Steps p.tables e below (s₁.setTop (entryFrame m #[(.long a), (.long b)] 4)) zz := fun zz k => castTop (ef_6 m a b) k
  obtain ⟨_, _, ⟨T1, L1, k1, n1⟩, -, X1, ⟨Lc1, hQ1, l1, y1, z1⟩, st1⟩ := Jvm.LawKit.callS X0 hx (y := (⟨"java/lang/Math", "multiplyHigh", "(JJ)J"⟩ : MethodName)) hown (mvT hZ (hw _ (List.mem_of_getElem? (i := 42) rfl))) (mvT hZ (hw _ (List.mem_of_getElem? (i := 43) rfl))) (mvT hZ (hw _ (List.mem_of_getElem? (i := 23) rfl))) (mvT hZ (hw _ (List.mem_of_getElem? (i := 44) rfl))) (by decide) (backOf (W := 0) (rm7 l Z a0 hw [] a b h0 n0 Z0) hZ (hw _ (List.mem_of_getElem? (i := 44) rfl)) (hw _ (List.mem_of_getElem? (i := 23) rfl)) (by decide) (by decide)) (g := (mkF m 2 #[.val (.long a), .second, .val (.long b), .second] [(.long b), (.long a)])) rfl (by rw [hml]; rfl) (argsL := [(.long a), (.long b)]) (rest := []) (lenOf pd_6 rfl) rfl (by show 2 * 0 + _ ≤ _; exact Nat.le_of_eq rfl) (hb hby d6_2) (fun _ _ => ⟨rfl, e0, (by decide : 0 + 0 ≤ _), (by decide : 0 + 0 ≤ _)⟩)
  dsimp only [Pt.U, Pt.locs, Pt.cells, Pt.slots] at X1 l1 y1 z1 st1 hQ1
  subst l1 y1 z1
  obtain ⟨rfl, N1q, e1⟩ := hQ1
  have N1 := Fr.app N0 N1q
  obtain ⟨fs, hr, hrun, hended, hW, hsame⟩ := X1.leave (v := some (.int (0 : Int32))) (fun h => by rw [Bd.returns] at h; cases h)
  refine ⟨_, _, pre0 _ ?_, hrun, hended, _, _, rfl, ?_, ⟨_, rfl⟩, hW, hsame.mono (by decide) (by decide)⟩
  · show Steps p.tables e below (s₁.setTop (mkF m 0 #[.val (.long a), .second, .val (.long b), .second] [])) _
    refine XS.lloadN X0.here hx rfl (hb hby d6_0) rfl ?_
    refine XS.lloadN X0.here hx rfl (hb hby d6_1) rfl ?_
    show Steps p.tables e below (s₁.setTop (mkF m 2 #[.val (.long a), .second, .val (.long b), .second] [(.long b), (.long a)])) _
    refine st1 _ ?_
    refine XS.lloadN X1.here hx rfl (hb hby d6_5) rfl ?_
    refine XS.lloadN X1.here hx rfl (hb hby d6_6) rfl ?_
    refine XS.lmul X1.here hx rfl (hb hby d6_7) rfl ?_
    refine XS.bipush X1.here hx rfl (hb hby d6_8) ?_
    refine XS.lshr X1.here hx rfl (hb hby d6_10) rfl ?_
    refine XS.lcmp X1.here hx rfl (hb hby d6_11) rfl ?_
    refine XS.ifYes X1.here hx rfl (pc0 := 12) (pc' := 19) rfl (hb hby d6_12) rfl ((if0 _ _).trans (feq hc12).2) (by decide) (by decide) ?_
    show Steps p.tables e below (T1.setTop (mkF m 19 #[.val (.long a), .second, .val (.long b), .second] [])) _
    refine XS.iconst X1.here hx rfl (hb hby d6_19) ?_
    show Steps p.tables e below (T1.setTop (mkF m 20 #[.val (.long a), .second, .val (.long b), .second] [(.int (0 : Int32))])) _
    exact retN X1 hx (t := .boolean) Bd.returns (by simp) (hb hby d6_20) hr
  · show QI (proF a b) h0 n0 _ T1.heap _
    rw [e1]
    exact ⟨by rw [proF, if_neg hc12], N1, rfl⟩
set_option maxRecDepth 65536 in
set_option maxHeartbeats 40000000 in
theorem rm6_1 (l : Launch) (Z : State) (a0 : Array Value) (hw : ∀ d ∈ tables_1, d.before a0 Z = true) (ws : List Jvm.Cond) (a : Int64) (b : Int64)  (h0 : Heap) (n0 : Nat) (Z0 : n0 ≤ h0.size)  (hc12 : (lcmpW (mulHi a b) ((a * b) >>> ((63 : Int32) &&& 0x3f).toInt64)) = (0 : Int32)) :
    MetFree l (⟨"com/example/syndicata/syndicata/Accrual", "productFits", "(JJ)Z"⟩ : MethodName) (head1 (Jvm.Cond.code (⟨"com/example/syndicata/syndicata/Accrual", "productFits", "(JJ)Z"⟩ : MethodName) prog_1_method_12_code 4 (some .boolean) :: ws) ({ frames := 1, cells := 0, slots := 0, locals := 31 } : Room)) (fun aa U => aa = #[(.long a), (.long b)] ∧ Z.Warmed39 U.vm ∧ U.heap = h0) (fun _ _ _ _ _ => True) (fun _ U o U' => ∃ v L, o = .returned v ∧ QI (proF a b) h0 n0 v U'.heap L ∧ FrameEnd U o U' L ({ frames := 1, cells := 0, slots := 0, locals := 31 } : Room).cells ({ frames := 1, cells := 0, slots := 0, locals := 31 } : Room).slots) := by
  refine MetFree.of_bodySF (plainFor_of_name pn_6) hisR ?_
  intro p e s m args below meth c s₁ Bd hml0 hP hK
  obtain ⟨rfl, hZ, hh⟩ := hP
  have hx := Bd.exec
  have hby := Bd.bytes
  have hml : c.maxLocals = 4 := hml0
  have hown : s.vm.findClass "com/example/syndicata/syndicata/Accrual" = some m.cls := findClass_of_methodNamed Bd.named
  have hnm := (name_of_methodNamed Bd.named Bd.method).1
  have X0 : Stand p l e ({ frames := 1, cells := 0, slots := 0, locals := 31 } : Room) s m #[(.long a), (.long b)] below meth c s₁ [] 0 0 := Stand.of_body Bd
  have e0 : s₁.heap = h0 := by rw [← hh, Bd.state]; rfl
  have N0 := Fr.nil n0
  have pre0 : ∀ zz, Steps p.tables e below (s₁.setTop (mkF m 0 #[.val (.long a), .second, .val (.long b), .second] [])) zz → Steps p.tables e below (s₁.setTop (entryFrame m #[(.long a), (.long b)] 4)) zz := fun zz k => castTop (ef_6 m a b) k
  obtain ⟨_, _, ⟨T2, L2, k2, n2⟩, -, X2, ⟨Lc2, hQ2, l2, y2, z2⟩, st2⟩ := Jvm.LawKit.callS X0 hx (y := (⟨"java/lang/Math", "multiplyHigh", "(JJ)J"⟩ : MethodName)) hown (mvT hZ (hw _ (List.mem_of_getElem? (i := 42) rfl))) (mvT hZ (hw _ (List.mem_of_getElem? (i := 43) rfl))) (mvT hZ (hw _ (List.mem_of_getElem? (i := 23) rfl))) (mvT hZ (hw _ (List.mem_of_getElem? (i := 44) rfl))) (by decide) (backOf (W := 0) (rm7 l Z a0 hw [] a b h0 n0 Z0) hZ (hw _ (List.mem_of_getElem? (i := 44) rfl)) (hw _ (List.mem_of_getElem? (i := 23) rfl)) (by decide) (by decide)) (g := (mkF m 2 #[.val (.long a), .second, .val (.long b), .second] [(.long b), (.long a)])) rfl (by rw [hml]; rfl) (argsL := [(.long a), (.long b)]) (rest := []) (lenOf pd_6 rfl) rfl (by show 2 * 0 + _ ≤ _; exact Nat.le_of_eq rfl) (hb hby d6_2) (fun _ _ => ⟨rfl, e0, (by decide : 0 + 0 ≤ _), (by decide : 0 + 0 ≤ _)⟩)
  dsimp only [Pt.U, Pt.locs, Pt.cells, Pt.slots] at X2 l2 y2 z2 st2 hQ2
  subst l2 y2 z2
  obtain ⟨rfl, N2q, e2⟩ := hQ2
  have N2 := Fr.app N0 N2q
  obtain ⟨fs, hr, hrun, hended, hW, hsame⟩ := X2.leave (v := some (.int (1 : Int32))) (fun h => by rw [Bd.returns] at h; cases h)
  refine ⟨_, _, pre0 _ ?_, hrun, hended, _, _, rfl, ?_, ⟨_, rfl⟩, hW, hsame.mono (by decide) (by decide)⟩
  · show Steps p.tables e below (s₁.setTop (mkF m 0 #[.val (.long a), .second, .val (.long b), .second] [])) _
    refine XS.lloadN X0.here hx rfl (hb hby d6_0) rfl ?_
    refine XS.lloadN X0.here hx rfl (hb hby d6_1) rfl ?_
    show Steps p.tables e below (s₁.setTop (mkF m 2 #[.val (.long a), .second, .val (.long b), .second] [(.long b), (.long a)])) _
    refine st2 _ ?_
    refine XS.lloadN X2.here hx rfl (hb hby d6_5) rfl ?_
    refine XS.lloadN X2.here hx rfl (hb hby d6_6) rfl ?_
    refine XS.lmul X2.here hx rfl (hb hby d6_7) rfl ?_
    refine XS.bipush X2.here hx rfl (hb hby d6_8) ?_
    refine XS.lshr X2.here hx rfl (hb hby d6_10) rfl ?_
    refine XS.lcmp X2.here hx rfl (hb hby d6_11) rfl ?_
    refine XS.ifNo X2.here hx rfl (hb hby d6_12) rfl ((if0 _ _).trans (teq hc12).2) ?_
    show Steps p.tables e below (T2.setTop (mkF m 15 #[.val (.long a), .second, .val (.long b), .second] [])) _
    refine XS.iconst X2.here hx rfl (hb hby d6_15) ?_
    refine XS.goto X2.here hx rfl (pc0 := 16) (pc' := 20) rfl (hb hby d6_16) (by decide) (by decide) ?_
    show Steps p.tables e below (T2.setTop (mkF m 20 #[.val (.long a), .second, .val (.long b), .second] [(.int (1 : Int32))])) _
    exact retN X2 hx (t := .boolean) Bd.returns (by simp) (hb hby d6_20) hr
  · show QI (proF a b) h0 n0 _ T2.heap _
    rw [e2]
    exact ⟨by rw [proF, if_pos hc12], N2, rfl⟩
set_option maxRecDepth 65536 in
set_option maxHeartbeats 40000000 in
theorem rm6 (l : Launch) (Z : State) (a0 : Array Value) (hw : ∀ d ∈ tables_1, d.before a0 Z = true) (ws : List Jvm.Cond) (a : Int64) (b : Int64)  (h0 : Heap) (n0 : Nat) (Z0 : n0 ≤ h0.size)   :
    MetFree l (⟨"com/example/syndicata/syndicata/Accrual", "productFits", "(JJ)Z"⟩ : MethodName) (head1 (Jvm.Cond.code (⟨"com/example/syndicata/syndicata/Accrual", "productFits", "(JJ)Z"⟩ : MethodName) prog_1_method_12_code 4 (some .boolean) :: ws) ({ frames := 1, cells := 0, slots := 0, locals := 31 } : Room)) (fun aa U => aa = #[(.long a), (.long b)] ∧ Z.Warmed39 U.vm ∧ U.heap = h0) (fun _ _ _ _ _ => True) (fun _ U o U' => ∃ v L, o = .returned v ∧ QI (proF a b) h0 n0 v U'.heap L ∧ FrameEnd U o U' L ({ frames := 1, cells := 0, slots := 0, locals := 31 } : Room).cells ({ frames := 1, cells := 0, slots := 0, locals := 31 } : Room).slots) := by
  by_cases h : lcmpW (mulHi a b) ((a * b) >>> ((63 : Int32) &&& 0x3f).toInt64) = 0
  · exact rm6_1 l Z a0 hw ws a b h0 n0 Z0 h
  · exact rm6_0 l Z a0 hw ws a b h0 n0 Z0 h
def powF : Nat → Int64
  | 0 => 1
  | n + 1 => powF n * 10
set_option maxRecDepth 65536 in
set_option maxHeartbeats 40000000 in
theorem tn5 {p : Program} {l : Launch} {e : Env} {R : Room} {s : State} {m : MethodId} {args : Array Value} {below : List Frame} {meth : Method} {c : Code} {T0 : State} {locs : List Loc} {cells slots : Nat} {Z : State} {a0 : Array Value} (k i : Int32) (w : Int64) (X0 : Stand p l e R s m args below meth c T0 locs cells slots) (hx : p.tables.exec = Jvm.exec) (hZ : Z.Warmed39 s.vm) (hw : ∀ d ∈ tables_1, d.before a0 Z = true) (hby : c.code = prog_1_method_14_code) (hown : s.vm.findClass "com/example/syndicata/syndicata/Accrual" = some m.cls)  (hc6 : i < k) {target : State}
    (kt : Steps p.tables e below (T0.setTop (mkF m 4 #[.val (.int k), .val (.long (w * (10 : Int64))), .second, .val (.int (i + (1 : Int32)))] [])) target) : Steps p.tables e below (T0.setTop (mkF m 4 #[.val (.int k), .val (.long w), .second, .val (.int i)] [])) target := by
  show Steps p.tables e below (T0.setTop (mkF m 4 #[.val (.int k), .val (.long w), .second, .val (.int i)] [])) _
  refine XS.iloadN X0.here hx rfl (hb hby d5_4) rfl ?_
  refine XS.iloadN X0.here hx rfl (hb hby d5_5) rfl ?_
  refine XS.icmpNo X0.here hx rfl (hb hby d5_6) rfl (tlt hc6).2.1 ?_
  refine XS.lloadN X0.here hx rfl (hb hby d5_9) rfl ?_
  refine X0.ldc2Long hx hown (mvT hZ (hw _ (List.mem_of_getElem? (i := 38) rfl))) (g := (mkF m 10 #[.val (.int k), .val (.long w), .second, .val (.int i)] [(.long w)])) rfl (hb hby d5_10) _ ?_
  refine XS.lmul X0.here hx rfl (hb hby d5_13) rfl ?_
  refine XS.lstoreN X0.here hx rfl (hb hby d5_14) rfl (l' := #[.val (.int k), .val (.long (w * (10 : Int64))), .second, .val (.int i)]) rfl ?_
  refine XS.iinc X0.here hx rfl (hb hby d5_15) rfl (l' := #[.val (.int k), .val (.long (w * (10 : Int64))), .second, .val (.int (i + (1 : Int32)))]) rfl ?_
  show Steps p.tables e below (T0.setTop (mkF m 18 #[.val (.int k), .val (.long (w * (10 : Int64))), .second, .val (.int (i + (1 : Int32)))] [])) _
  refine XS.goto X0.here hx rfl (pc0 := 18) (pc' := 4) rfl (hb hby d5_18) (by decide) (by decide) ?_
  exact kt
set_option maxRecDepth 65536 in
set_option maxHeartbeats 40000000 in
theorem ex5 {p : Program} {l : Launch} {e : Env} {R : Room} {s : State} {m : MethodId} {args : Array Value} {below : List Frame} {meth : Method} {c : Code} {T0 : State} {locs : List Loc} {cells slots : Nat} {Z : State} {a0 : Array Value} (k i : Int32) (w : Int64) (X0 : Stand p l e R s m args below meth c T0 locs cells slots) (hx : p.tables.exec = Jvm.exec) (hZ : Z.Warmed39 s.vm) (hw : ∀ d ∈ tables_1, d.before a0 Z = true) (hby : c.code = prog_1_method_14_code) (hown : s.vm.findClass "com/example/syndicata/syndicata/Accrual" = some m.cls)  (hc6 : ¬ (i < k)) {target : State}
    (kt : Steps p.tables e below (T0.setTop (mkF m 21 #[.val (.int k), .val (.long w), .second, .val (.int i)] [])) target) : Steps p.tables e below (T0.setTop (mkF m 4 #[.val (.int k), .val (.long w), .second, .val (.int i)] [])) target := by
  show Steps p.tables e below (T0.setTop (mkF m 4 #[.val (.int k), .val (.long w), .second, .val (.int i)] [])) _
  refine XS.iloadN X0.here hx rfl (hb hby d5_4) rfl ?_
  refine XS.iloadN X0.here hx rfl (hb hby d5_5) rfl ?_
  refine XS.icmpYes X0.here hx rfl (pc0 := 6) (pc' := 21) rfl (hb hby d5_6) rfl (flt hc6).2.1 (by decide) (by decide) ?_
  exact kt
set_option maxRecDepth 65536 in
set_option maxHeartbeats 40000000 in
theorem lp5 {p : Program} {l : Launch} {e : Env} {R : Room} {s : State} {m : MethodId} {args : Array Value} {below : List Frame} {meth : Method} {c : Code} {T0 : State} {locs : List Loc} {cells slots : Nat} {Z : State} {a0 : Array Value} (X0 : Stand p l e R s m args below meth c T0 locs cells slots) (hx : p.tables.exec = Jvm.exec) (hZ : Z.Warmed39 s.vm) (hw : ∀ d ∈ tables_1, d.before a0 Z = true) (hby : c.code = prog_1_method_14_code) (hown : s.vm.findClass "com/example/syndicata/syndicata/Accrual" = some m.cls) (N : Nat) (hN : N < 100) {target : State} :
    ∀ (n j : Nat), j + n = N → Steps p.tables e below (T0.setTop (mkF m 21 #[.val (.int (Int32.ofNat N)), .val (.long (powF N)), .second, .val (.int (Int32.ofNat N))] [])) target → Steps p.tables e below (T0.setTop (mkF m 4 #[.val (.int (Int32.ofNat N)), .val (.long (powF j)), .second, .val (.int (Int32.ofNat j))] [])) target := by
  have ho : ∀ q : Nat, q ≤ N → (Int32.ofNat q).toInt = q := fun q hq => Int32.toInt_ofNat_small (by omega)
  intro n
  induction n with
  | zero =>
    intro j hj kt
    obtain rfl : j = N := by omega
    exact ex5 _ _ _ X0 hx hZ hw hby hown (by rw [Int32.lt_iff_toInt_lt]; omega) kt
  | succ n ih =>
    intro j hj kt
    refine tn5 _ _ _ X0 hx hZ hw hby hown (by rw [Int32.lt_iff_toInt_lt, ho j (by omega), ho N (by omega)]; omega) ?_
    have e1 : Int32.ofNat j + (1 : Int32) = Int32.ofNat (j + 1) := Int32.ofNat_succ j
    rw [e1]
    exact ih (j + 1) (by omega) kt
set_option maxRecDepth 65536 in
set_option maxHeartbeats 40000000 in
theorem rm5 (l : Launch) (Z : State) (a0 : Array Value) (hw : ∀ d ∈ tables_1, d.before a0 Z = true) (ws : List Jvm.Cond) (N : Nat)  (h0 : Heap) (n0 : Nat) (Z0 : n0 ≤ h0.size) (hN : N < 100)   :
    MetFree l (⟨"com/example/syndicata/syndicata/Accrual", "powerOfTen", "(I)J"⟩ : MethodName) (head1 (Jvm.Cond.code (⟨"com/example/syndicata/syndicata/Accrual", "powerOfTen", "(I)J"⟩ : MethodName) prog_1_method_14_code 4 (some .long) :: ws) ({ frames := 0, cells := 0, slots := 0, locals := 0 } : Room)) (fun aa U => aa = #[(.int (Int32.ofNat N))] ∧ Z.Warmed39 U.vm ∧ U.heap = h0) (fun _ _ _ _ _ => True) (fun _ U o U' => ∃ v L, o = .returned v ∧ QJ (powF N) h0 n0 v U'.heap L ∧ FrameEnd U o U' L ({ frames := 0, cells := 0, slots := 0, locals := 0 } : Room).cells ({ frames := 0, cells := 0, slots := 0, locals := 0 } : Room).slots) := by
  refine MetFree.of_bodySF (plainFor_of_name pn_5) hisR ?_
  intro p e s m args below meth c s₁ Bd hml0 hP hK
  obtain ⟨rfl, hZ, hh⟩ := hP
  have hx := Bd.exec
  have hby := Bd.bytes
  have hml : c.maxLocals = 4 := hml0
  have hown : s.vm.findClass "com/example/syndicata/syndicata/Accrual" = some m.cls := findClass_of_methodNamed Bd.named
  have hnm := (name_of_methodNamed Bd.named Bd.method).1
  have X0 : Stand p l e ({ frames := 0, cells := 0, slots := 0, locals := 0 } : Room) s m #[(.int (Int32.ofNat N))] below meth c s₁ [] 0 0 := Stand.of_body Bd
  have e0 : s₁.heap = h0 := by rw [← hh, Bd.state]; rfl
  have N0 := Fr.nil n0
  have pre0 : ∀ zz, Steps p.tables e below (s₁.setTop (mkF m 0 #[.val (.int (Int32.ofNat N)), .unset, .unset, .unset] [])) zz → Steps p.tables e below (s₁.setTop (entryFrame m #[(.int (Int32.ofNat N))] 4)) zz := fun zz k => castTop (ef_5 m (Int32.ofNat N)) k
  obtain ⟨fs, hr, hrun, hended, hW, hsame⟩ := X0.leave (v := some (.long (powF N))) (fun h => by rw [Bd.returns] at h; cases h)
  refine ⟨_, _, pre0 _ ?_, hrun, hended, _, _, rfl, ?_, ⟨_, rfl⟩, hW, hsame.mono (by decide) (by decide)⟩
  · show Steps p.tables e below (s₁.setTop (mkF m 0 #[.val (.int (Int32.ofNat N)), .unset, .unset, .unset] [])) _
    refine XS.lconst X0.here hx rfl (hb hby d5_0) ?_
    refine XS.lstoreN X0.here hx rfl (hb hby d5_1) rfl (l' := #[.val (.int (Int32.ofNat N)), .val (.long (1 : Int64)), .second, .unset]) rfl ?_
    refine XS.iconst X0.here hx rfl (hb hby d5_2) ?_
    refine XS.istoreN X0.here hx rfl (hb hby d5_3) rfl (l' := #[.val (.int (Int32.ofNat N)), .val (.long (1 : Int64)), .second, .val (.int (0 : Int32))]) rfl ?_
    show Steps p.tables e below (s₁.setTop (mkF m 4 #[.val (.int (Int32.ofNat N)), .val (.long (powF 0)), .second, .val (.int (Int32.ofNat 0))] [])) _
    refine lp5 X0 hx hZ hw hby hown N hN N 0 (by omega) ?_
    refine XS.lloadN X0.here hx rfl (hb hby d5_21) rfl ?_
    show Steps p.tables e below (s₁.setTop (mkF m 22 #[.val (.int (Int32.ofNat N)), .val (.long (powF N)), .second, .val (.int (Int32.ofNat N))] [(.long (powF N))])) _
    jvm_step X0.here [X0.here.top, hx, (hb hby d5_22), X0.method', Bd.returns, narrow]
    first | (intro acts; rw [hr _ acts rfl rfl rfl]) | rw [hr _ _ rfl rfl rfl]
    exact Steps.refl _
  · show QJ (powF N) h0 n0 _ s₁.heap _
    rw [e0]
    exact ⟨rfl, N0, rfl⟩
def tA (pl rs : Int32) : Int32 := ((pl - (2 : Int32)) - rs) - (2 : Int32)
def perF (ru dy mu : Int64) : Int64 := (ru * dy) * mu
def divF (yd : Int32) (dt : Int64) : Int64 := yd.toInt64 * dt
def remF (c lf dv : Int64) : Int64 := absL ((c * lf) % dv)
def sum3 (a b u : Int64) : Int64 := (a + b) + u
def rupF (c per : Int64) : Int64 := (sigF c * sigF per).toInt64
set_option maxRecDepth 65536 in
set_option maxHeartbeats 40000000 in
theorem rm3_A (l : Launch) (Z : State) (a0 : Array Value) (hw : ∀ d ∈ tables_1, d.before a0 Z = true) (ws : List Jvm.Cond) (cc : Int64) (ru : Int64) (rs : Int32) (dy : Int64) (yd : Int32) (pl : Int32)  (h0 : Heap) (n0 : Nat) (Z0 : n0 ≤ h0.size)  (hc18 : (18 : Int32) < (absI (tA pl rs))) :
    MetFree l (⟨"com/example/syndicata/syndicata/Accrual", "accruedUnits", "(JJIJII)J"⟩ : MethodName) (head1 (Jvm.Cond.code (⟨"com/example/syndicata/syndicata/Accrual", "accruedUnits", "(JJIJII)J"⟩ : MethodName) prog_1_method_9_code 32 (some .long) :: ws) ({ frames := 2, cells := 0, slots := 0, locals := 46 } : Room)) (fun aa U => aa = #[(.long cc), (.long ru), (.int rs), (.long dy), (.int yd), (.int pl)] ∧ Z.Warmed39 U.vm ∧ U.heap = h0) (fun _ _ _ _ _ => True) (fun _ U o U' => ∃ v L, o = .returned v ∧ QJ (-9223372036854775808 : Int64) h0 n0 v U'.heap L ∧ FrameEnd U o U' L ({ frames := 2, cells := 0, slots := 0, locals := 46 } : Room).cells ({ frames := 2, cells := 0, slots := 0, locals := 46 } : Room).slots) := by
  refine MetFree.of_bodySF (plainFor_of_name pn_3) hisR ?_
  intro p e s m args below meth c s₁ Bd hml0 hP hK
  obtain ⟨rfl, hZ, hh⟩ := hP
  have hx := Bd.exec
  have hby := Bd.bytes
  have hml : c.maxLocals = 32 := hml0
  have hown : s.vm.findClass "com/example/syndicata/syndicata/Accrual" = some m.cls := findClass_of_methodNamed Bd.named
  have hnm := (name_of_methodNamed Bd.named Bd.method).1
  have X0 : Stand p l e ({ frames := 2, cells := 0, slots := 0, locals := 46 } : Room) s m #[(.long cc), (.long ru), (.int rs), (.long dy), (.int yd), (.int pl)] below meth c s₁ [] 0 0 := Stand.of_body Bd
  have e0 : s₁.heap = h0 := by rw [← hh, Bd.state]; rfl
  have N0 := Fr.nil n0
  have pre0 : ∀ zz, Steps p.tables e below (s₁.setTop (mkF m 0 #[.val (.long cc), .second, .val (.long ru), .second, .val (.int rs), .val (.long dy), .second, .val (.int yd), .val (.int pl), .unset, .unset, .unset, .unset, .unset, .unset, .unset, .unset, .unset, .unset, .unset, .unset, .unset, .unset, .unset, .unset, .unset, .unset, .unset, .unset, .unset, .unset, .unset] [])) zz → Steps p.tables e below (s₁.setTop (entryFrame m #[(.long cc), (.long ru), (.int rs), (.long dy), (.int yd), (.int pl)] 32)) zz := fun zz k => castTop (ef_3 m cc ru rs dy yd pl) k
  obtain ⟨_, _, ⟨T3, L3, k3, n3⟩, -, X3, ⟨Lc3, hQ3, l3, y3, z3⟩, st3⟩ := Jvm.LawKit.callS X0 hx (y := (⟨"java/lang/Math", "abs", "(I)I"⟩ : MethodName)) hown (mvT hZ (hw _ (List.mem_of_getElem? (i := 32) rfl))) (mvT hZ (hw _ (List.mem_of_getElem? (i := 33) rfl))) (mvT hZ (hw _ (List.mem_of_getElem? (i := 23) rfl))) (mvT hZ (hw _ (List.mem_of_getElem? (i := 34) rfl))) (by decide) (backOf (W := 0) (rm4 l Z a0 hw [] (tA pl rs) h0 n0 Z0) hZ (hw _ (List.mem_of_getElem? (i := 34) rfl)) (hw _ (List.mem_of_getElem? (i := 23) rfl)) (by decide) (by decide)) (g := (mkF m 13 #[.val (.long cc), .second, .val (.long ru), .second, .val (.int rs), .val (.long dy), .second, .val (.int yd), .val (.int pl), .val (.int (tA pl rs)), .unset, .unset, .unset, .unset, .unset, .unset, .unset, .unset, .unset, .unset, .unset, .unset, .unset, .unset, .unset, .unset, .unset, .unset, .unset, .unset, .unset, .unset] [(.int (tA pl rs))])) rfl (by rw [hml]; rfl) (argsL := [(.int (tA pl rs))]) (rest := []) (lenOf pd_3 rfl) rfl (by show 2 * 0 + _ ≤ _; exact Nat.le_of_eq rfl) (hb hby d3_13) (fun _ _ => ⟨rfl, e0, (by decide : 0 + 0 ≤ _), (by decide : 0 + 0 ≤ _)⟩)
  dsimp only [Pt.U, Pt.locs, Pt.cells, Pt.slots] at X3 l3 y3 z3 st3 hQ3
  subst l3 y3 z3
  obtain ⟨rfl, N3q, e3⟩ := hQ3
  have N3 := Fr.app N0 N3q
  obtain ⟨fs, hr, hrun, hended, hW, hsame⟩ := X3.leave (v := some (.long (-9223372036854775808 : Int64))) (fun h => by rw [Bd.returns] at h; cases h)
  refine ⟨_, _, pre0 _ ?_, hrun, hended, _, _, rfl, ?_, ⟨_, rfl⟩, hW, hsame.mono (by decide) (by decide)⟩
  · show Steps p.tables e below (s₁.setTop (mkF m 0 #[.val (.long cc), .second, .val (.long ru), .second, .val (.int rs), .val (.long dy), .second, .val (.int yd), .val (.int pl), .unset, .unset, .unset, .unset, .unset, .unset, .unset, .unset, .unset, .unset, .unset, .unset, .unset, .unset, .unset, .unset, .unset, .unset, .unset, .unset, .unset, .unset, .unset] [])) _
    refine XS.iload X0.here hx rfl (hb hby d3_0) rfl ?_
    refine XS.iconst X0.here hx rfl (hb hby d3_2) ?_
    refine XS.isub X0.here hx rfl (hb hby d3_3) rfl ?_
    refine XS.iload X0.here hx rfl (hb hby d3_4) rfl ?_
    refine XS.isub X0.here hx rfl (hb hby d3_6) rfl ?_
    refine XS.iconst X0.here hx rfl (hb hby d3_7) ?_
    refine XS.isub X0.here hx rfl (hb hby d3_8) rfl ?_
    show Steps p.tables e below (s₁.setTop (mkF m 9 #[.val (.long cc), .second, .val (.long ru), .second, .val (.int rs), .val (.long dy), .second, .val (.int yd), .val (.int pl), .unset, .unset, .unset, .unset, .unset, .unset, .unset, .unset, .unset, .unset, .unset, .unset, .unset, .unset, .unset, .unset, .unset, .unset, .unset, .unset, .unset, .unset, .unset] [(.int (tA pl rs))])) _
    refine XS.istore X0.here hx rfl (hb hby d3_9) rfl (l' := #[.val (.long cc), .second, .val (.long ru), .second, .val (.int rs), .val (.long dy), .second, .val (.int yd), .val (.int pl), .val (.int (tA pl rs)), .unset, .unset, .unset, .unset, .unset, .unset, .unset, .unset, .unset, .unset, .unset, .unset, .unset, .unset, .unset, .unset, .unset, .unset, .unset, .unset, .unset, .unset]) rfl ?_
    refine XS.iload X0.here hx rfl (hb hby d3_11) rfl ?_
    show Steps p.tables e below (s₁.setTop (mkF m 13 #[.val (.long cc), .second, .val (.long ru), .second, .val (.int rs), .val (.long dy), .second, .val (.int yd), .val (.int pl), .val (.int (tA pl rs)), .unset, .unset, .unset, .unset, .unset, .unset, .unset, .unset, .unset, .unset, .unset, .unset, .unset, .unset, .unset, .unset, .unset, .unset, .unset, .unset, .unset, .unset] [(.int (tA pl rs))])) _
    refine st3 _ ?_
    refine XS.bipush X3.here hx rfl (hb hby d3_16) ?_
    refine XS.icmpNo X3.here hx rfl (hb hby d3_18) rfl (tlt hc18).2.2.2 ?_
    refine X3.ldc2Long hx hown (mvT hZ (hw _ (List.mem_of_getElem? (i := 55) rfl))) (g := (mkF m 21 #[.val (.long cc), .second, .val (.long ru), .second, .val (.int rs), .val (.long dy), .second, .val (.int yd), .val (.int pl), .val (.int (tA pl rs)), .unset, .unset, .unset, .unset, .unset, .unset, .unset, .unset, .unset, .unset, .unset, .unset, .unset, .unset, .unset, .unset, .unset, .unset, .unset, .unset, .unset, .unset] [])) rfl (hb hby d3_21) _ ?_
    show Steps p.tables e below (T3.setTop (mkF m 24 #[.val (.long cc), .second, .val (.long ru), .second, .val (.int rs), .val (.long dy), .second, .val (.int yd), .val (.int pl), .val (.int (tA pl rs)), .unset, .unset, .unset, .unset, .unset, .unset, .unset, .unset, .unset, .unset, .unset, .unset, .unset, .unset, .unset, .unset, .unset, .unset, .unset, .unset, .unset, .unset] [(.long (-9223372036854775808 : Int64))])) _
    jvm_step X3.here [X3.here.top, hx, (hb hby d3_24), X3.method', Bd.returns, narrow]
    first | (intro acts; rw [hr _ acts rfl rfl rfl]) | rw [hr _ _ rfl rfl rfl]
    exact Steps.refl _
  · show QJ (-9223372036854775808 : Int64) h0 n0 _ T3.heap _
    rw [e3]
    exact ⟨rfl, N3, rfl⟩
set_option maxRecDepth 65536 in
set_option maxHeartbeats 40000000 in
theorem rm3_B (l : Launch) (Z : State) (a0 : Array Value) (hw : ∀ d ∈ tables_1, d.before a0 Z = true) (ws : List Jvm.Cond) (cc : Int64) (ru : Int64) (rs : Int32) (dy : Int64) (yd : Int32) (pl : Int32) (N : Nat) (h0 : Heap) (n0 : Nat) (Z0 : n0 ≤ h0.size) (hN : absI (tA pl rs) = Int32.ofNat N) (hN1 : N < 100) (hc18 : ¬ ((18 : Int32) < (absI (tA pl rs)))) (hc37 : (0 : Int32) < (tA pl rs)) (hc50 : (0 : Int32) < (tA pl rs)) (hc67 : ¬ ((proF ru dy) = (0 : Int32))) (hc79 : (proF (ru * dy) (powF N)) = (0 : Int32)) :
    MetFree l (⟨"com/example/syndicata/syndicata/Accrual", "accruedUnits", "(JJIJII)J"⟩ : MethodName) (head1 (Jvm.Cond.code (⟨"com/example/syndicata/syndicata/Accrual", "accruedUnits", "(JJIJII)J"⟩ : MethodName) prog_1_method_9_code 32 (some .long) :: ws) ({ frames := 2, cells := 0, slots := 0, locals := 46 } : Room)) (fun aa U => aa = #[(.long cc), (.long ru), (.int rs), (.long dy), (.int yd), (.int pl)] ∧ Z.Warmed39 U.vm ∧ U.heap = h0) (fun _ _ _ _ _ => True) (fun _ U o U' => ∃ v L, o = .returned v ∧ QJ (-9223372036854775808 : Int64) h0 n0 v U'.heap L ∧ FrameEnd U o U' L ({ frames := 2, cells := 0, slots := 0, locals := 46 } : Room).cells ({ frames := 2, cells := 0, slots := 0, locals := 46 } : Room).slots) := by
  refine MetFree.of_bodySF (plainFor_of_name pn_3) hisR ?_
  intro p e s m args below meth c s₁ Bd hml0 hP hK
  obtain ⟨rfl, hZ, hh⟩ := hP
  have hx := Bd.exec
  have hby := Bd.bytes
  have hml : c.maxLocals = 32 := hml0
  have hown : s.vm.findClass "com/example/syndicata/syndicata/Accrual" = some m.cls := findClass_of_methodNamed Bd.named
  have hnm := (name_of_methodNamed Bd.named Bd.method).1
  have X0 : Stand p l e ({ frames := 2, cells := 0, slots := 0, locals := 46 } : Room) s m #[(.long cc), (.long ru), (.int rs), (.long dy), (.int yd), (.int pl)] below meth c s₁ [] 0 0 := Stand.of_body Bd
  have e0 : s₁.heap = h0 := by rw [← hh, Bd.state]; rfl
  have N0 := Fr.nil n0
  have pre0 : ∀ zz, Steps p.tables e below (s₁.setTop (mkF m 0 #[.val (.long cc), .second, .val (.long ru), .second, .val (.int rs), .val (.long dy), .second, .val (.int yd), .val (.int pl), .unset, .unset, .unset, .unset, .unset, .unset, .unset, .unset, .unset, .unset, .unset, .unset, .unset, .unset, .unset, .unset, .unset, .unset, .unset, .unset, .unset, .unset, .unset] [])) zz → Steps p.tables e below (s₁.setTop (entryFrame m #[(.long cc), (.long ru), (.int rs), (.long dy), (.int yd), (.int pl)] 32)) zz := fun zz k => castTop (ef_3 m cc ru rs dy yd pl) k
  obtain ⟨_, _, ⟨T4, L4, k4, n4⟩, -, X4, ⟨Lc4, hQ4, l4, y4, z4⟩, st4⟩ := Jvm.LawKit.callS X0 hx (y := (⟨"java/lang/Math", "abs", "(I)I"⟩ : MethodName)) hown (mvT hZ (hw _ (List.mem_of_getElem? (i := 32) rfl))) (mvT hZ (hw _ (List.mem_of_getElem? (i := 33) rfl))) (mvT hZ (hw _ (List.mem_of_getElem? (i := 23) rfl))) (mvT hZ (hw _ (List.mem_of_getElem? (i := 34) rfl))) (by decide) (backOf (W := 0) (rm4 l Z a0 hw [] (tA pl rs) h0 n0 Z0) hZ (hw _ (List.mem_of_getElem? (i := 34) rfl)) (hw _ (List.mem_of_getElem? (i := 23) rfl)) (by decide) (by decide)) (g := (mkF m 13 #[.val (.long cc), .second, .val (.long ru), .second, .val (.int rs), .val (.long dy), .second, .val (.int yd), .val (.int pl), .val (.int (tA pl rs)), .unset, .unset, .unset, .unset, .unset, .unset, .unset, .unset, .unset, .unset, .unset, .unset, .unset, .unset, .unset, .unset, .unset, .unset, .unset, .unset, .unset, .unset] [(.int (tA pl rs))])) rfl (by rw [hml]; rfl) (argsL := [(.int (tA pl rs))]) (rest := []) (lenOf pd_3 rfl) rfl (by show 2 * 0 + _ ≤ _; exact Nat.le_of_eq rfl) (hb hby d3_13) (fun _ _ => ⟨rfl, e0, (by decide : 0 + 0 ≤ _), (by decide : 0 + 0 ≤ _)⟩)
  dsimp only [Pt.U, Pt.locs, Pt.cells, Pt.slots] at X4 l4 y4 z4 st4 hQ4
  subst l4 y4 z4
  obtain ⟨rfl, N4q, e4⟩ := hQ4
  have N4 := Fr.app N0 N4q
  obtain ⟨_, _, ⟨T5, L5, k5, n5⟩, -, X5, ⟨Lc5, hQ5, l5, y5, z5⟩, st5⟩ := Jvm.LawKit.callS X4 hx (y := (⟨"java/lang/Math", "abs", "(I)I"⟩ : MethodName)) hown (mvT hZ (hw _ (List.mem_of_getElem? (i := 32) rfl))) (mvT hZ (hw _ (List.mem_of_getElem? (i := 33) rfl))) (mvT hZ (hw _ (List.mem_of_getElem? (i := 23) rfl))) (mvT hZ (hw _ (List.mem_of_getElem? (i := 34) rfl))) (by decide) (backOf (W := 0) (rm4 l Z a0 hw [] (tA pl rs) h0 n0 Z0) hZ (hw _ (List.mem_of_getElem? (i := 34) rfl)) (hw _ (List.mem_of_getElem? (i := 23) rfl)) (by decide) (by decide)) (g := (mkF m 27 #[.val (.long cc), .second, .val (.long ru), .second, .val (.int rs), .val (.long dy), .second, .val (.int yd), .val (.int pl), .val (.int (tA pl rs)), .unset, .unset, .unset, .unset, .unset, .unset, .unset, .unset, .unset, .unset, .unset, .unset, .unset, .unset, .unset, .unset, .unset, .unset, .unset, .unset, .unset, .unset] [(.int (tA pl rs))])) rfl (by rw [hml]; rfl) (argsL := [(.int (tA pl rs))]) (rest := []) (lenOf pd_3 rfl) rfl (by show 2 * 0 + _ ≤ _; exact Nat.le_of_eq rfl) (hb hby d3_27) (fun _ _ => ⟨rfl, e4, (by decide : 0 + 0 ≤ _), (by decide : 0 + 0 ≤ _)⟩)
  dsimp only [Pt.U, Pt.locs, Pt.cells, Pt.slots] at X5 l5 y5 z5 st5 hQ5
  subst l5 y5 z5
  obtain ⟨rfl, N5q, e5⟩ := hQ5
  have N5 := Fr.app N4 N5q
  rw [hN] at st5
  obtain ⟨_, _, ⟨T6, L6, k6, n6⟩, -, X6, ⟨Lc6, hQ6, l6, y6, z6⟩, st6⟩ := Jvm.LawKit.callS X5 hx (y := (⟨"com/example/syndicata/syndicata/Accrual", "powerOfTen", "(I)J"⟩ : MethodName)) hown (mvT hZ (hw _ (List.mem_of_getElem? (i := 35) rfl))) (mvT hZ (hw _ (List.mem_of_getElem? (i := 36) rfl))) (mvT hZ (hw _ (List.mem_of_getElem? (i := 30) rfl))) (mvT hZ (hw _ (List.mem_of_getElem? (i := 37) rfl))) (by decide) (backOf (W := 0) (rm5 l Z a0 hw [] N h0 n0 Z0 hN1) hZ (hw _ (List.mem_of_getElem? (i := 37) rfl)) (hw _ (List.mem_of_getElem? (i := 30) rfl)) (by decide) (by decide)) (g := (mkF m 30 #[.val (.long cc), .second, .val (.long ru), .second, .val (.int rs), .val (.long dy), .second, .val (.int yd), .val (.int pl), .val (.int (tA pl rs)), .unset, .unset, .unset, .unset, .unset, .unset, .unset, .unset, .unset, .unset, .unset, .unset, .unset, .unset, .unset, .unset, .unset, .unset, .unset, .unset, .unset, .unset] [(.int (Int32.ofNat N))])) rfl (by rw [hml]; rfl) (argsL := [(.int (Int32.ofNat N))]) (rest := []) (lenOf pd_4 rfl) rfl (by show 2 * 0 + _ ≤ _; exact Nat.le_of_eq rfl) (hb hby d3_30) (fun _ _ => ⟨rfl, e5, (by decide : 0 + 0 ≤ _), (by decide : 0 + 0 ≤ _)⟩)
  dsimp only [Pt.U, Pt.locs, Pt.cells, Pt.slots] at X6 l6 y6 z6 st6 hQ6
  subst l6 y6 z6
  obtain ⟨rfl, N6q, e6⟩ := hQ6
  have N6 := Fr.app N5 N6q
  obtain ⟨_, _, ⟨T7, L7, k7, n7⟩, -, X7, ⟨Lc7, hQ7, l7, y7, z7⟩, st7⟩ := Jvm.LawKit.callS X6 hx (y := (⟨"com/example/syndicata/syndicata/Accrual", "productFits", "(JJ)Z"⟩ : MethodName)) hown (mvT hZ (hw _ (List.mem_of_getElem? (i := 39) rfl))) (mvT hZ (hw _ (List.mem_of_getElem? (i := 40) rfl))) (mvT hZ (hw _ (List.mem_of_getElem? (i := 30) rfl))) (mvT hZ (hw _ (List.mem_of_getElem? (i := 41) rfl))) (by decide) (backOf (W := 0) (rm6 l Z a0 hw [] ru dy h0 n0 Z0) hZ (hw _ (List.mem_of_getElem? (i := 41) rfl)) (hw _ (List.mem_of_getElem? (i := 30) rfl)) (by decide) (by decide)) (g := (mkF m 64 #[.val (.long cc), .second, .val (.long ru), .second, .val (.int rs), .val (.long dy), .second, .val (.int yd), .val (.int pl), .val (.int (tA pl rs)), .val (.long (powF N)), .second, .val (.long (powF N)), .second, .val (.long (1 : Int64)), .second, .unset, .unset, .unset, .unset, .unset, .unset, .unset, .unset, .unset, .unset, .unset, .unset, .unset, .unset, .unset, .unset] [(.long dy), (.long ru)])) rfl (by rw [hml]; rfl) (argsL := [(.long ru), (.long dy)]) (rest := []) (lenOf pd_5 rfl) rfl (by show 2 * 0 + _ ≤ _; exact Nat.le_of_eq rfl) (hb hby d3_64) (fun _ _ => ⟨rfl, e6, (by decide : 0 + 0 ≤ _), (by decide : 0 + 0 ≤ _)⟩)
  dsimp only [Pt.U, Pt.locs, Pt.cells, Pt.slots] at X7 l7 y7 z7 st7 hQ7
  subst l7 y7 z7
  obtain ⟨rfl, N7q, e7⟩ := hQ7
  have N7 := Fr.app N6 N7q
  obtain ⟨_, _, ⟨T8, L8, k8, n8⟩, -, X8, ⟨Lc8, hQ8, l8, y8, z8⟩, st8⟩ := Jvm.LawKit.callS X7 hx (y := (⟨"com/example/syndicata/syndicata/Accrual", "productFits", "(JJ)Z"⟩ : MethodName)) hown (mvT hZ (hw _ (List.mem_of_getElem? (i := 39) rfl))) (mvT hZ (hw _ (List.mem_of_getElem? (i := 40) rfl))) (mvT hZ (hw _ (List.mem_of_getElem? (i := 30) rfl))) (mvT hZ (hw _ (List.mem_of_getElem? (i := 41) rfl))) (by decide) (backOf (W := 0) (rm6 l Z a0 hw [] (ru * dy) (powF N) h0 n0 Z0) hZ (hw _ (List.mem_of_getElem? (i := 41) rfl)) (hw _ (List.mem_of_getElem? (i := 30) rfl)) (by decide) (by decide)) (g := (mkF m 76 #[.val (.long cc), .second, .val (.long ru), .second, .val (.int rs), .val (.long dy), .second, .val (.int yd), .val (.int pl), .val (.int (tA pl rs)), .val (.long (powF N)), .second, .val (.long (powF N)), .second, .val (.long (1 : Int64)), .second, .unset, .unset, .unset, .unset, .unset, .unset, .unset, .unset, .unset, .unset, .unset, .unset, .unset, .unset, .unset, .unset] [(.long (powF N)), (.long (ru * dy))])) rfl (by rw [hml]; rfl) (argsL := [(.long (ru * dy)), (.long (powF N))]) (rest := []) (lenOf pd_5 rfl) rfl (by show 2 * 0 + _ ≤ _; exact Nat.le_of_eq rfl) (hb hby d3_76) (fun _ _ => ⟨rfl, e7, (by decide : 0 + 0 ≤ _), (by decide : 0 + 0 ≤ _)⟩)
  dsimp only [Pt.U, Pt.locs, Pt.cells, Pt.slots] at X8 l8 y8 z8 st8 hQ8
  subst l8 y8 z8
  obtain ⟨rfl, N8q, e8⟩ := hQ8
  have N8 := Fr.app N7 N8q
  obtain ⟨fs, hr, hrun, hended, hW, hsame⟩ := X8.leave (v := some (.long (-9223372036854775808 : Int64))) (fun h => by rw [Bd.returns] at h; cases h)
  refine ⟨_, _, pre0 _ ?_, hrun, hended, _, _, rfl, ?_, ⟨_, rfl⟩, hW, hsame.mono (by decide) (by decide)⟩
  · show Steps p.tables e below (s₁.setTop (mkF m 0 #[.val (.long cc), .second, .val (.long ru), .second, .val (.int rs), .val (.long dy), .second, .val (.int yd), .val (.int pl), .unset, .unset, .unset, .unset, .unset, .unset, .unset, .unset, .unset, .unset, .unset, .unset, .unset, .unset, .unset, .unset, .unset, .unset, .unset, .unset, .unset, .unset, .unset] [])) _
    refine XS.iload X0.here hx rfl (hb hby d3_0) rfl ?_
    refine XS.iconst X0.here hx rfl (hb hby d3_2) ?_
    refine XS.isub X0.here hx rfl (hb hby d3_3) rfl ?_
    refine XS.iload X0.here hx rfl (hb hby d3_4) rfl ?_
    refine XS.isub X0.here hx rfl (hb hby d3_6) rfl ?_
    refine XS.iconst X0.here hx rfl (hb hby d3_7) ?_
    refine XS.isub X0.here hx rfl (hb hby d3_8) rfl ?_
    show Steps p.tables e below (s₁.setTop (mkF m 9 #[.val (.long cc), .second, .val (.long ru), .second, .val (.int rs), .val (.long dy), .second, .val (.int yd), .val (.int pl), .unset, .unset, .unset, .unset, .unset, .unset, .unset, .unset, .unset, .unset, .unset, .unset, .unset, .unset, .unset, .unset, .unset, .unset, .unset, .unset, .unset, .unset, .unset] [(.int (tA pl rs))])) _
    refine XS.istore X0.here hx rfl (hb hby d3_9) rfl (l' := #[.val (.long cc), .second, .val (.long ru), .second, .val (.int rs), .val (.long dy), .second, .val (.int yd), .val (.int pl), .val (.int (tA pl rs)), .unset, .unset, .unset, .unset, .unset, .unset, .unset, .unset, .unset, .unset, .unset, .unset, .unset, .unset, .unset, .unset, .unset, .unset, .unset, .unset, .unset, .unset]) rfl ?_
    refine XS.iload X0.here hx rfl (hb hby d3_11) rfl ?_
    show Steps p.tables e below (s₁.setTop (mkF m 13 #[.val (.long cc), .second, .val (.long ru), .second, .val (.int rs), .val (.long dy), .second, .val (.int yd), .val (.int pl), .val (.int (tA pl rs)), .unset, .unset, .unset, .unset, .unset, .unset, .unset, .unset, .unset, .unset, .unset, .unset, .unset, .unset, .unset, .unset, .unset, .unset, .unset, .unset, .unset, .unset] [(.int (tA pl rs))])) _
    refine st4 _ ?_
    refine XS.bipush X4.here hx rfl (hb hby d3_16) ?_
    refine XS.icmpYes X4.here hx rfl (pc0 := 18) (pc' := 25) rfl (hb hby d3_18) rfl (flt hc18).2.2.2 (by decide) (by decide) ?_
    refine XS.iload X4.here hx rfl (hb hby d3_25) rfl ?_
    show Steps p.tables e below (T4.setTop (mkF m 27 #[.val (.long cc), .second, .val (.long ru), .second, .val (.int rs), .val (.long dy), .second, .val (.int yd), .val (.int pl), .val (.int (tA pl rs)), .unset, .unset, .unset, .unset, .unset, .unset, .unset, .unset, .unset, .unset, .unset, .unset, .unset, .unset, .unset, .unset, .unset, .unset, .unset, .unset, .unset, .unset] [(.int (tA pl rs))])) _
    refine st5 _ ?_
    show Steps p.tables e below (T5.setTop (mkF m 30 #[.val (.long cc), .second, .val (.long ru), .second, .val (.int rs), .val (.long dy), .second, .val (.int yd), .val (.int pl), .val (.int (tA pl rs)), .unset, .unset, .unset, .unset, .unset, .unset, .unset, .unset, .unset, .unset, .unset, .unset, .unset, .unset, .unset, .unset, .unset, .unset, .unset, .unset, .unset, .unset] [(.int (Int32.ofNat N))])) _
    refine st6 _ ?_
    refine XS.lstore X6.here hx rfl (hb hby d3_33) rfl (l' := #[.val (.long cc), .second, .val (.long ru), .second, .val (.int rs), .val (.long dy), .second, .val (.int yd), .val (.int pl), .val (.int (tA pl rs)), .val (.long (powF N)), .second, .unset, .unset, .unset, .unset, .unset, .unset, .unset, .unset, .unset, .unset, .unset, .unset, .unset, .unset, .unset, .unset, .unset, .unset, .unset, .unset]) rfl ?_
    refine XS.iload X6.here hx rfl (hb hby d3_35) rfl ?_
    refine XS.ifNo X6.here hx rfl (hb hby d3_37) rfl ((if0 _ _).trans (tlt hc37).2.2.2) ?_
    refine XS.lload X6.here hx rfl (hb hby d3_40) rfl ?_
    refine XS.goto X6.here hx rfl (pc0 := 42) (pc' := 46) rfl (hb hby d3_42) (by decide) (by decide) ?_
    refine XS.lstore X6.here hx rfl (hb hby d3_46) rfl (l' := #[.val (.long cc), .second, .val (.long ru), .second, .val (.int rs), .val (.long dy), .second, .val (.int yd), .val (.int pl), .val (.int (tA pl rs)), .val (.long (powF N)), .second, .val (.long (powF N)), .second, .unset, .unset, .unset, .unset, .unset, .unset, .unset, .unset, .unset, .unset, .unset, .unset, .unset, .unset, .unset, .unset, .unset, .unset]) rfl ?_
    refine XS.iload X6.here hx rfl (hb hby d3_48) rfl ?_
    show Steps p.tables e below (T6.setTop (mkF m 50 #[.val (.long cc), .second, .val (.long ru), .second, .val (.int rs), .val (.long dy), .second, .val (.int yd), .val (.int pl), .val (.int (tA pl rs)), .val (.long (powF N)), .second, .val (.long (powF N)), .second, .unset, .unset, .unset, .unset, .unset, .unset, .unset, .unset, .unset, .unset, .unset, .unset, .unset, .unset, .unset, .unset, .unset, .unset] [(.int (tA pl rs))])) _
    refine XS.ifNo X6.here hx rfl (hb hby d3_50) rfl ((if0 _ _).trans (tlt hc50).2.2.2) ?_
    refine XS.lconst X6.here hx rfl (hb hby d3_53) ?_
    refine XS.goto X6.here hx rfl (pc0 := 54) (pc' := 59) rfl (hb hby d3_54) (by decide) (by decide) ?_
    refine XS.lstore X6.here hx rfl (hb hby d3_59) rfl (l' := #[.val (.long cc), .second, .val (.long ru), .second, .val (.int rs), .val (.long dy), .second, .val (.int yd), .val (.int pl), .val (.int (tA pl rs)), .val (.long (powF N)), .second, .val (.long (powF N)), .second, .val (.long (1 : Int64)), .second, .unset, .unset, .unset, .unset, .unset, .unset, .unset, .unset, .unset, .unset, .unset, .unset, .unset, .unset, .unset, .unset]) rfl ?_
    refine XS.lloadN X6.here hx rfl (hb hby d3_61) rfl ?_
    refine XS.lload X6.here hx rfl (hb hby d3_62) rfl ?_
    show Steps p.tables e below (T6.setTop (mkF m 64 #[.val (.long cc), .second, .val (.long ru), .second, .val (.int rs), .val (.long dy), .second, .val (.int yd), .val (.int pl), .val (.int (tA pl rs)), .val (.long (powF N)), .second, .val (.long (powF N)), .second, .val (.long (1 : Int64)), .second, .unset, .unset, .unset, .unset, .unset, .unset, .unset, .unset, .unset, .unset, .unset, .unset, .unset, .unset, .unset, .unset] [(.long dy), (.long ru)])) _
    refine st7 _ ?_
    refine XS.ifNo X7.here hx rfl (hb hby d3_67) rfl ((if0 _ _).trans (feq hc67).1) ?_
    refine XS.lloadN X7.here hx rfl (hb hby d3_70) rfl ?_
    refine XS.lload X7.here hx rfl (hb hby d3_71) rfl ?_
    refine XS.lmul X7.here hx rfl (hb hby d3_73) rfl ?_
    refine XS.lload X7.here hx rfl (hb hby d3_74) rfl ?_
    show Steps p.tables e below (T7.setTop (mkF m 76 #[.val (.long cc), .second, .val (.long ru), .second, .val (.int rs), .val (.long dy), .second, .val (.int yd), .val (.int pl), .val (.int (tA pl rs)), .val (.long (powF N)), .second, .val (.long (powF N)), .second, .val (.long (1 : Int64)), .second, .unset, .unset, .unset, .unset, .unset, .unset, .unset, .unset, .unset, .unset, .unset, .unset, .unset, .unset, .unset, .unset] [(.long (powF N)), (.long (ru * dy))])) _
    refine st8 _ ?_
    refine XS.ifYes X8.here hx rfl (pc0 := 79) (pc' := 93) rfl (hb hby d3_79) rfl ((if0 _ _).trans (teq hc79).1) (by decide) (by decide) ?_
    refine X8.ldc2Long hx hown (mvT hZ (hw _ (List.mem_of_getElem? (i := 55) rfl))) (g := (mkF m 93 #[.val (.long cc), .second, .val (.long ru), .second, .val (.int rs), .val (.long dy), .second, .val (.int yd), .val (.int pl), .val (.int (tA pl rs)), .val (.long (powF N)), .second, .val (.long (powF N)), .second, .val (.long (1 : Int64)), .second, .unset, .unset, .unset, .unset, .unset, .unset, .unset, .unset, .unset, .unset, .unset, .unset, .unset, .unset, .unset, .unset] [])) rfl (hb hby d3_93) _ ?_
    show Steps p.tables e below (T8.setTop (mkF m 96 #[.val (.long cc), .second, .val (.long ru), .second, .val (.int rs), .val (.long dy), .second, .val (.int yd), .val (.int pl), .val (.int (tA pl rs)), .val (.long (powF N)), .second, .val (.long (powF N)), .second, .val (.long (1 : Int64)), .second, .unset, .unset, .unset, .unset, .unset, .unset, .unset, .unset, .unset, .unset, .unset, .unset, .unset, .unset, .unset, .unset] [(.long (-9223372036854775808 : Int64))])) _
    jvm_step X8.here [X8.here.top, hx, (hb hby d3_96), X8.method', Bd.returns, narrow]
    first | (intro acts; rw [hr _ acts rfl rfl rfl]) | rw [hr _ _ rfl rfl rfl]
    exact Steps.refl _
  · show QJ (-9223372036854775808 : Int64) h0 n0 _ T8.heap _
    rw [e8]
    exact ⟨rfl, N8, rfl⟩
set_option maxRecDepth 65536 in
set_option maxHeartbeats 40000000 in
theorem rm3_C (l : Launch) (Z : State) (a0 : Array Value) (hw : ∀ d ∈ tables_1, d.before a0 Z = true) (ws : List Jvm.Cond) (cc : Int64) (ru : Int64) (rs : Int32) (dy : Int64) (yd : Int32) (pl : Int32) (N : Nat) (h0 : Heap) (n0 : Nat) (Z0 : n0 ≤ h0.size) (hN : absI (tA pl rs) = Int32.ofNat N) (hN1 : N < 100) (hc18 : ¬ ((18 : Int32) < (absI (tA pl rs)))) (hc37 : ¬ ((0 : Int32) < (tA pl rs))) (hc50 : ¬ ((0 : Int32) < (tA pl rs))) (hc67 : ¬ ((proF ru dy) = (0 : Int32))) (hc79 : ¬ ((proF (ru * dy) (1 : Int64)) = (0 : Int32))) (hc90 : (proF (yd.toInt64) (powF N)) = (0 : Int32)) :
    MetFree l (⟨"com/example/syndicata/syndicata/Accrual", "accruedUnits", "(JJIJII)J"⟩ : MethodName) (head1 (Jvm.Cond.code (⟨"com/example/syndicata/syndicata/Accrual", "accruedUnits", "(JJIJII)J"⟩ : MethodName) prog_1_method_9_code 32 (some .long) :: ws) ({ frames := 2, cells := 0, slots := 0, locals := 46 } : Room)) (fun aa U => aa = #[(.long cc), (.long ru), (.int rs), (.long dy), (.int yd), (.int pl)] ∧ Z.Warmed39 U.vm ∧ U.heap = h0) (fun _ _ _ _ _ => True) (fun _ U o U' => ∃ v L, o = .returned v ∧ QJ (-9223372036854775808 : Int64) h0 n0 v U'.heap L ∧ FrameEnd U o U' L ({ frames := 2, cells := 0, slots := 0, locals := 46 } : Room).cells ({ frames := 2, cells := 0, slots := 0, locals := 46 } : Room).slots) := by
  refine MetFree.of_bodySF (plainFor_of_name pn_3) hisR ?_
  intro p e s m args below meth c s₁ Bd hml0 hP hK
  obtain ⟨rfl, hZ, hh⟩ := hP
  have hx := Bd.exec
  have hby := Bd.bytes
  have hml : c.maxLocals = 32 := hml0
  have hown : s.vm.findClass "com/example/syndicata/syndicata/Accrual" = some m.cls := findClass_of_methodNamed Bd.named
  have hnm := (name_of_methodNamed Bd.named Bd.method).1
  have X0 : Stand p l e ({ frames := 2, cells := 0, slots := 0, locals := 46 } : Room) s m #[(.long cc), (.long ru), (.int rs), (.long dy), (.int yd), (.int pl)] below meth c s₁ [] 0 0 := Stand.of_body Bd
  have e0 : s₁.heap = h0 := by rw [← hh, Bd.state]; rfl
  have N0 := Fr.nil n0
  have pre0 : ∀ zz, Steps p.tables e below (s₁.setTop (mkF m 0 #[.val (.long cc), .second, .val (.long ru), .second, .val (.int rs), .val (.long dy), .second, .val (.int yd), .val (.int pl), .unset, .unset, .unset, .unset, .unset, .unset, .unset, .unset, .unset, .unset, .unset, .unset, .unset, .unset, .unset, .unset, .unset, .unset, .unset, .unset, .unset, .unset, .unset] [])) zz → Steps p.tables e below (s₁.setTop (entryFrame m #[(.long cc), (.long ru), (.int rs), (.long dy), (.int yd), (.int pl)] 32)) zz := fun zz k => castTop (ef_3 m cc ru rs dy yd pl) k
  obtain ⟨_, _, ⟨T9, L9, k9, n9⟩, -, X9, ⟨Lc9, hQ9, l9, y9, z9⟩, st9⟩ := Jvm.LawKit.callS X0 hx (y := (⟨"java/lang/Math", "abs", "(I)I"⟩ : MethodName)) hown (mvT hZ (hw _ (List.mem_of_getElem? (i := 32) rfl))) (mvT hZ (hw _ (List.mem_of_getElem? (i := 33) rfl))) (mvT hZ (hw _ (List.mem_of_getElem? (i := 23) rfl))) (mvT hZ (hw _ (List.mem_of_getElem? (i := 34) rfl))) (by decide) (backOf (W := 0) (rm4 l Z a0 hw [] (tA pl rs) h0 n0 Z0) hZ (hw _ (List.mem_of_getElem? (i := 34) rfl)) (hw _ (List.mem_of_getElem? (i := 23) rfl)) (by decide) (by decide)) (g := (mkF m 13 #[.val (.long cc), .second, .val (.long ru), .second, .val (.int rs), .val (.long dy), .second, .val (.int yd), .val (.int pl), .val (.int (tA pl rs)), .unset, .unset, .unset, .unset, .unset, .unset, .unset, .unset, .unset, .unset, .unset, .unset, .unset, .unset, .unset, .unset, .unset, .unset, .unset, .unset, .unset, .unset] [(.int (tA pl rs))])) rfl (by rw [hml]; rfl) (argsL := [(.int (tA pl rs))]) (rest := []) (lenOf pd_3 rfl) rfl (by show 2 * 0 + _ ≤ _; exact Nat.le_of_eq rfl) (hb hby d3_13) (fun _ _ => ⟨rfl, e0, (by decide : 0 + 0 ≤ _), (by decide : 0 + 0 ≤ _)⟩)
  dsimp only [Pt.U, Pt.locs, Pt.cells, Pt.slots] at X9 l9 y9 z9 st9 hQ9
  subst l9 y9 z9
  obtain ⟨rfl, N9q, e9⟩ := hQ9
  have N9 := Fr.app N0 N9q
  obtain ⟨_, _, ⟨T10, L10, k10, n10⟩, -, X10, ⟨Lc10, hQ10, l10, y10, z10⟩, st10⟩ := Jvm.LawKit.callS X9 hx (y := (⟨"java/lang/Math", "abs", "(I)I"⟩ : MethodName)) hown (mvT hZ (hw _ (List.mem_of_getElem? (i := 32) rfl))) (mvT hZ (hw _ (List.mem_of_getElem? (i := 33) rfl))) (mvT hZ (hw _ (List.mem_of_getElem? (i := 23) rfl))) (mvT hZ (hw _ (List.mem_of_getElem? (i := 34) rfl))) (by decide) (backOf (W := 0) (rm4 l Z a0 hw [] (tA pl rs) h0 n0 Z0) hZ (hw _ (List.mem_of_getElem? (i := 34) rfl)) (hw _ (List.mem_of_getElem? (i := 23) rfl)) (by decide) (by decide)) (g := (mkF m 27 #[.val (.long cc), .second, .val (.long ru), .second, .val (.int rs), .val (.long dy), .second, .val (.int yd), .val (.int pl), .val (.int (tA pl rs)), .unset, .unset, .unset, .unset, .unset, .unset, .unset, .unset, .unset, .unset, .unset, .unset, .unset, .unset, .unset, .unset, .unset, .unset, .unset, .unset, .unset, .unset] [(.int (tA pl rs))])) rfl (by rw [hml]; rfl) (argsL := [(.int (tA pl rs))]) (rest := []) (lenOf pd_3 rfl) rfl (by show 2 * 0 + _ ≤ _; exact Nat.le_of_eq rfl) (hb hby d3_27) (fun _ _ => ⟨rfl, e9, (by decide : 0 + 0 ≤ _), (by decide : 0 + 0 ≤ _)⟩)
  dsimp only [Pt.U, Pt.locs, Pt.cells, Pt.slots] at X10 l10 y10 z10 st10 hQ10
  subst l10 y10 z10
  obtain ⟨rfl, N10q, e10⟩ := hQ10
  have N10 := Fr.app N9 N10q
  rw [hN] at st10
  obtain ⟨_, _, ⟨T11, L11, k11, n11⟩, -, X11, ⟨Lc11, hQ11, l11, y11, z11⟩, st11⟩ := Jvm.LawKit.callS X10 hx (y := (⟨"com/example/syndicata/syndicata/Accrual", "powerOfTen", "(I)J"⟩ : MethodName)) hown (mvT hZ (hw _ (List.mem_of_getElem? (i := 35) rfl))) (mvT hZ (hw _ (List.mem_of_getElem? (i := 36) rfl))) (mvT hZ (hw _ (List.mem_of_getElem? (i := 30) rfl))) (mvT hZ (hw _ (List.mem_of_getElem? (i := 37) rfl))) (by decide) (backOf (W := 0) (rm5 l Z a0 hw [] N h0 n0 Z0 hN1) hZ (hw _ (List.mem_of_getElem? (i := 37) rfl)) (hw _ (List.mem_of_getElem? (i := 30) rfl)) (by decide) (by decide)) (g := (mkF m 30 #[.val (.long cc), .second, .val (.long ru), .second, .val (.int rs), .val (.long dy), .second, .val (.int yd), .val (.int pl), .val (.int (tA pl rs)), .unset, .unset, .unset, .unset, .unset, .unset, .unset, .unset, .unset, .unset, .unset, .unset, .unset, .unset, .unset, .unset, .unset, .unset, .unset, .unset, .unset, .unset] [(.int (Int32.ofNat N))])) rfl (by rw [hml]; rfl) (argsL := [(.int (Int32.ofNat N))]) (rest := []) (lenOf pd_4 rfl) rfl (by show 2 * 0 + _ ≤ _; exact Nat.le_of_eq rfl) (hb hby d3_30) (fun _ _ => ⟨rfl, e10, (by decide : 0 + 0 ≤ _), (by decide : 0 + 0 ≤ _)⟩)
  dsimp only [Pt.U, Pt.locs, Pt.cells, Pt.slots] at X11 l11 y11 z11 st11 hQ11
  subst l11 y11 z11
  obtain ⟨rfl, N11q, e11⟩ := hQ11
  have N11 := Fr.app N10 N11q
  obtain ⟨_, _, ⟨T12, L12, k12, n12⟩, -, X12, ⟨Lc12, hQ12, l12, y12, z12⟩, st12⟩ := Jvm.LawKit.callS X11 hx (y := (⟨"com/example/syndicata/syndicata/Accrual", "productFits", "(JJ)Z"⟩ : MethodName)) hown (mvT hZ (hw _ (List.mem_of_getElem? (i := 39) rfl))) (mvT hZ (hw _ (List.mem_of_getElem? (i := 40) rfl))) (mvT hZ (hw _ (List.mem_of_getElem? (i := 30) rfl))) (mvT hZ (hw _ (List.mem_of_getElem? (i := 41) rfl))) (by decide) (backOf (W := 0) (rm6 l Z a0 hw [] ru dy h0 n0 Z0) hZ (hw _ (List.mem_of_getElem? (i := 41) rfl)) (hw _ (List.mem_of_getElem? (i := 30) rfl)) (by decide) (by decide)) (g := (mkF m 64 #[.val (.long cc), .second, .val (.long ru), .second, .val (.int rs), .val (.long dy), .second, .val (.int yd), .val (.int pl), .val (.int (tA pl rs)), .val (.long (powF N)), .second, .val (.long (1 : Int64)), .second, .val (.long (powF N)), .second, .unset, .unset, .unset, .unset, .unset, .unset, .unset, .unset, .unset, .unset, .unset, .unset, .unset, .unset, .unset, .unset] [(.long dy), (.long ru)])) rfl (by rw [hml]; rfl) (argsL := [(.long ru), (.long dy)]) (rest := []) (lenOf pd_5 rfl) rfl (by show 2 * 0 + _ ≤ _; exact Nat.le_of_eq rfl) (hb hby d3_64) (fun _ _ => ⟨rfl, e11, (by decide : 0 + 0 ≤ _), (by decide : 0 + 0 ≤ _)⟩)
  dsimp only [Pt.U, Pt.locs, Pt.cells, Pt.slots] at X12 l12 y12 z12 st12 hQ12
  subst l12 y12 z12
  obtain ⟨rfl, N12q, e12⟩ := hQ12
  have N12 := Fr.app N11 N12q
  obtain ⟨_, _, ⟨T13, L13, k13, n13⟩, -, X13, ⟨Lc13, hQ13, l13, y13, z13⟩, st13⟩ := Jvm.LawKit.callS X12 hx (y := (⟨"com/example/syndicata/syndicata/Accrual", "productFits", "(JJ)Z"⟩ : MethodName)) hown (mvT hZ (hw _ (List.mem_of_getElem? (i := 39) rfl))) (mvT hZ (hw _ (List.mem_of_getElem? (i := 40) rfl))) (mvT hZ (hw _ (List.mem_of_getElem? (i := 30) rfl))) (mvT hZ (hw _ (List.mem_of_getElem? (i := 41) rfl))) (by decide) (backOf (W := 0) (rm6 l Z a0 hw [] (ru * dy) (1 : Int64) h0 n0 Z0) hZ (hw _ (List.mem_of_getElem? (i := 41) rfl)) (hw _ (List.mem_of_getElem? (i := 30) rfl)) (by decide) (by decide)) (g := (mkF m 76 #[.val (.long cc), .second, .val (.long ru), .second, .val (.int rs), .val (.long dy), .second, .val (.int yd), .val (.int pl), .val (.int (tA pl rs)), .val (.long (powF N)), .second, .val (.long (1 : Int64)), .second, .val (.long (powF N)), .second, .unset, .unset, .unset, .unset, .unset, .unset, .unset, .unset, .unset, .unset, .unset, .unset, .unset, .unset, .unset, .unset] [(.long (1 : Int64)), (.long (ru * dy))])) rfl (by rw [hml]; rfl) (argsL := [(.long (ru * dy)), (.long (1 : Int64))]) (rest := []) (lenOf pd_5 rfl) rfl (by show 2 * 0 + _ ≤ _; exact Nat.le_of_eq rfl) (hb hby d3_76) (fun _ _ => ⟨rfl, e12, (by decide : 0 + 0 ≤ _), (by decide : 0 + 0 ≤ _)⟩)
  dsimp only [Pt.U, Pt.locs, Pt.cells, Pt.slots] at X13 l13 y13 z13 st13 hQ13
  subst l13 y13 z13
  obtain ⟨rfl, N13q, e13⟩ := hQ13
  have N13 := Fr.app N12 N13q
  obtain ⟨_, _, ⟨T14, L14, k14, n14⟩, -, X14, ⟨Lc14, hQ14, l14, y14, z14⟩, st14⟩ := Jvm.LawKit.callS X13 hx (y := (⟨"com/example/syndicata/syndicata/Accrual", "productFits", "(JJ)Z"⟩ : MethodName)) hown (mvT hZ (hw _ (List.mem_of_getElem? (i := 39) rfl))) (mvT hZ (hw _ (List.mem_of_getElem? (i := 40) rfl))) (mvT hZ (hw _ (List.mem_of_getElem? (i := 30) rfl))) (mvT hZ (hw _ (List.mem_of_getElem? (i := 41) rfl))) (by decide) (backOf (W := 0) (rm6 l Z a0 hw [] (yd.toInt64) (powF N) h0 n0 Z0) hZ (hw _ (List.mem_of_getElem? (i := 41) rfl)) (hw _ (List.mem_of_getElem? (i := 30) rfl)) (by decide) (by decide)) (g := (mkF m 87 #[.val (.long cc), .second, .val (.long ru), .second, .val (.int rs), .val (.long dy), .second, .val (.int yd), .val (.int pl), .val (.int (tA pl rs)), .val (.long (powF N)), .second, .val (.long (1 : Int64)), .second, .val (.long (powF N)), .second, .unset, .unset, .unset, .unset, .unset, .unset, .unset, .unset, .unset, .unset, .unset, .unset, .unset, .unset, .unset, .unset] [(.long (powF N)), (.long (yd.toInt64))])) rfl (by rw [hml]; rfl) (argsL := [(.long (yd.toInt64)), (.long (powF N))]) (rest := []) (lenOf pd_5 rfl) rfl (by show 2 * 0 + _ ≤ _; exact Nat.le_of_eq rfl) (hb hby d3_87) (fun _ _ => ⟨rfl, e13, (by decide : 0 + 0 ≤ _), (by decide : 0 + 0 ≤ _)⟩)
  dsimp only [Pt.U, Pt.locs, Pt.cells, Pt.slots] at X14 l14 y14 z14 st14 hQ14
  subst l14 y14 z14
  obtain ⟨rfl, N14q, e14⟩ := hQ14
  have N14 := Fr.app N13 N14q
  obtain ⟨fs, hr, hrun, hended, hW, hsame⟩ := X14.leave (v := some (.long (-9223372036854775808 : Int64))) (fun h => by rw [Bd.returns] at h; cases h)
  refine ⟨_, _, pre0 _ ?_, hrun, hended, _, _, rfl, ?_, ⟨_, rfl⟩, hW, hsame.mono (by decide) (by decide)⟩
  · show Steps p.tables e below (s₁.setTop (mkF m 0 #[.val (.long cc), .second, .val (.long ru), .second, .val (.int rs), .val (.long dy), .second, .val (.int yd), .val (.int pl), .unset, .unset, .unset, .unset, .unset, .unset, .unset, .unset, .unset, .unset, .unset, .unset, .unset, .unset, .unset, .unset, .unset, .unset, .unset, .unset, .unset, .unset, .unset] [])) _
    refine XS.iload X0.here hx rfl (hb hby d3_0) rfl ?_
    refine XS.iconst X0.here hx rfl (hb hby d3_2) ?_
    refine XS.isub X0.here hx rfl (hb hby d3_3) rfl ?_
    refine XS.iload X0.here hx rfl (hb hby d3_4) rfl ?_
    refine XS.isub X0.here hx rfl (hb hby d3_6) rfl ?_
    refine XS.iconst X0.here hx rfl (hb hby d3_7) ?_
    refine XS.isub X0.here hx rfl (hb hby d3_8) rfl ?_
    show Steps p.tables e below (s₁.setTop (mkF m 9 #[.val (.long cc), .second, .val (.long ru), .second, .val (.int rs), .val (.long dy), .second, .val (.int yd), .val (.int pl), .unset, .unset, .unset, .unset, .unset, .unset, .unset, .unset, .unset, .unset, .unset, .unset, .unset, .unset, .unset, .unset, .unset, .unset, .unset, .unset, .unset, .unset, .unset] [(.int (tA pl rs))])) _
    refine XS.istore X0.here hx rfl (hb hby d3_9) rfl (l' := #[.val (.long cc), .second, .val (.long ru), .second, .val (.int rs), .val (.long dy), .second, .val (.int yd), .val (.int pl), .val (.int (tA pl rs)), .unset, .unset, .unset, .unset, .unset, .unset, .unset, .unset, .unset, .unset, .unset, .unset, .unset, .unset, .unset, .unset, .unset, .unset, .unset, .unset, .unset, .unset]) rfl ?_
    refine XS.iload X0.here hx rfl (hb hby d3_11) rfl ?_
    show Steps p.tables e below (s₁.setTop (mkF m 13 #[.val (.long cc), .second, .val (.long ru), .second, .val (.int rs), .val (.long dy), .second, .val (.int yd), .val (.int pl), .val (.int (tA pl rs)), .unset, .unset, .unset, .unset, .unset, .unset, .unset, .unset, .unset, .unset, .unset, .unset, .unset, .unset, .unset, .unset, .unset, .unset, .unset, .unset, .unset, .unset] [(.int (tA pl rs))])) _
    refine st9 _ ?_
    refine XS.bipush X9.here hx rfl (hb hby d3_16) ?_
    refine XS.icmpYes X9.here hx rfl (pc0 := 18) (pc' := 25) rfl (hb hby d3_18) rfl (flt hc18).2.2.2 (by decide) (by decide) ?_
    refine XS.iload X9.here hx rfl (hb hby d3_25) rfl ?_
    show Steps p.tables e below (T9.setTop (mkF m 27 #[.val (.long cc), .second, .val (.long ru), .second, .val (.int rs), .val (.long dy), .second, .val (.int yd), .val (.int pl), .val (.int (tA pl rs)), .unset, .unset, .unset, .unset, .unset, .unset, .unset, .unset, .unset, .unset, .unset, .unset, .unset, .unset, .unset, .unset, .unset, .unset, .unset, .unset, .unset, .unset] [(.int (tA pl rs))])) _
    refine st10 _ ?_
    show Steps p.tables e below (T10.setTop (mkF m 30 #[.val (.long cc), .second, .val (.long ru), .second, .val (.int rs), .val (.long dy), .second, .val (.int yd), .val (.int pl), .val (.int (tA pl rs)), .unset, .unset, .unset, .unset, .unset, .unset, .unset, .unset, .unset, .unset, .unset, .unset, .unset, .unset, .unset, .unset, .unset, .unset, .unset, .unset, .unset, .unset] [(.int (Int32.ofNat N))])) _
    refine st11 _ ?_
    refine XS.lstore X11.here hx rfl (hb hby d3_33) rfl (l' := #[.val (.long cc), .second, .val (.long ru), .second, .val (.int rs), .val (.long dy), .second, .val (.int yd), .val (.int pl), .val (.int (tA pl rs)), .val (.long (powF N)), .second, .unset, .unset, .unset, .unset, .unset, .unset, .unset, .unset, .unset, .unset, .unset, .unset, .unset, .unset, .unset, .unset, .unset, .unset, .unset, .unset]) rfl ?_
    refine XS.iload X11.here hx rfl (hb hby d3_35) rfl ?_
    refine XS.ifYes X11.here hx rfl (pc0 := 37) (pc' := 45) rfl (hb hby d3_37) rfl ((if0 _ _).trans (flt hc37).2.2.2) (by decide) (by decide) ?_
    refine XS.lconst X11.here hx rfl (hb hby d3_45) ?_
    refine XS.lstore X11.here hx rfl (hb hby d3_46) rfl (l' := #[.val (.long cc), .second, .val (.long ru), .second, .val (.int rs), .val (.long dy), .second, .val (.int yd), .val (.int pl), .val (.int (tA pl rs)), .val (.long (powF N)), .second, .val (.long (1 : Int64)), .second, .unset, .unset, .unset, .unset, .unset, .unset, .unset, .unset, .unset, .unset, .unset, .unset, .unset, .unset, .unset, .unset, .unset, .unset]) rfl ?_
    refine XS.iload X11.here hx rfl (hb hby d3_48) rfl ?_
    refine XS.ifYes X11.here hx rfl (pc0 := 50) (pc' := 57) rfl (hb hby d3_50) rfl ((if0 _ _).trans (flt hc50).2.2.2) (by decide) (by decide) ?_
    show Steps p.tables e below (T11.setTop (mkF m 57 #[.val (.long cc), .second, .val (.long ru), .second, .val (.int rs), .val (.long dy), .second, .val (.int yd), .val (.int pl), .val (.int (tA pl rs)), .val (.long (powF N)), .second, .val (.long (1 : Int64)), .second, .unset, .unset, .unset, .unset, .unset, .unset, .unset, .unset, .unset, .unset, .unset, .unset, .unset, .unset, .unset, .unset, .unset, .unset] [])) _
    refine XS.lload X11.here hx rfl (hb hby d3_57) rfl ?_
    refine XS.lstore X11.here hx rfl (hb hby d3_59) rfl (l' := #[.val (.long cc), .second, .val (.long ru), .second, .val (.int rs), .val (.long dy), .second, .val (.int yd), .val (.int pl), .val (.int (tA pl rs)), .val (.long (powF N)), .second, .val (.long (1 : Int64)), .second, .val (.long (powF N)), .second, .unset, .unset, .unset, .unset, .unset, .unset, .unset, .unset, .unset, .unset, .unset, .unset, .unset, .unset, .unset, .unset]) rfl ?_
    refine XS.lloadN X11.here hx rfl (hb hby d3_61) rfl ?_
    refine XS.lload X11.here hx rfl (hb hby d3_62) rfl ?_
    show Steps p.tables e below (T11.setTop (mkF m 64 #[.val (.long cc), .second, .val (.long ru), .second, .val (.int rs), .val (.long dy), .second, .val (.int yd), .val (.int pl), .val (.int (tA pl rs)), .val (.long (powF N)), .second, .val (.long (1 : Int64)), .second, .val (.long (powF N)), .second, .unset, .unset, .unset, .unset, .unset, .unset, .unset, .unset, .unset, .unset, .unset, .unset, .unset, .unset, .unset, .unset] [(.long dy), (.long ru)])) _
    refine st12 _ ?_
    refine XS.ifNo X12.here hx rfl (hb hby d3_67) rfl ((if0 _ _).trans (feq hc67).1) ?_
    refine XS.lloadN X12.here hx rfl (hb hby d3_70) rfl ?_
    refine XS.lload X12.here hx rfl (hb hby d3_71) rfl ?_
    refine XS.lmul X12.here hx rfl (hb hby d3_73) rfl ?_
    refine XS.lload X12.here hx rfl (hb hby d3_74) rfl ?_
    show Steps p.tables e below (T12.setTop (mkF m 76 #[.val (.long cc), .second, .val (.long ru), .second, .val (.int rs), .val (.long dy), .second, .val (.int yd), .val (.int pl), .val (.int (tA pl rs)), .val (.long (powF N)), .second, .val (.long (1 : Int64)), .second, .val (.long (powF N)), .second, .unset, .unset, .unset, .unset, .unset, .unset, .unset, .unset, .unset, .unset, .unset, .unset, .unset, .unset, .unset, .unset] [(.long (1 : Int64)), (.long (ru * dy))])) _
    refine st13 _ ?_
    refine XS.ifNo X13.here hx rfl (hb hby d3_79) rfl ((if0 _ _).trans (feq hc79).1) ?_
    refine XS.iload X13.here hx rfl (hb hby d3_82) rfl ?_
    refine XS.i2l X13.here hx rfl (hb hby d3_84) rfl ?_
    refine XS.lload X13.here hx rfl (hb hby d3_85) rfl ?_
    show Steps p.tables e below (T13.setTop (mkF m 87 #[.val (.long cc), .second, .val (.long ru), .second, .val (.int rs), .val (.long dy), .second, .val (.int yd), .val (.int pl), .val (.int (tA pl rs)), .val (.long (powF N)), .second, .val (.long (1 : Int64)), .second, .val (.long (powF N)), .second, .unset, .unset, .unset, .unset, .unset, .unset, .unset, .unset, .unset, .unset, .unset, .unset, .unset, .unset, .unset, .unset] [(.long (powF N)), (.long (yd.toInt64))])) _
    refine st14 _ ?_
    refine XS.ifNo X14.here hx rfl (hb hby d3_90) rfl ((if0 _ _).trans (teq hc90).2) ?_
    refine X14.ldc2Long hx hown (mvT hZ (hw _ (List.mem_of_getElem? (i := 55) rfl))) (g := (mkF m 93 #[.val (.long cc), .second, .val (.long ru), .second, .val (.int rs), .val (.long dy), .second, .val (.int yd), .val (.int pl), .val (.int (tA pl rs)), .val (.long (powF N)), .second, .val (.long (1 : Int64)), .second, .val (.long (powF N)), .second, .unset, .unset, .unset, .unset, .unset, .unset, .unset, .unset, .unset, .unset, .unset, .unset, .unset, .unset, .unset, .unset] [])) rfl (hb hby d3_93) _ ?_
    show Steps p.tables e below (T14.setTop (mkF m 96 #[.val (.long cc), .second, .val (.long ru), .second, .val (.int rs), .val (.long dy), .second, .val (.int yd), .val (.int pl), .val (.int (tA pl rs)), .val (.long (powF N)), .second, .val (.long (1 : Int64)), .second, .val (.long (powF N)), .second, .unset, .unset, .unset, .unset, .unset, .unset, .unset, .unset, .unset, .unset, .unset, .unset, .unset, .unset, .unset, .unset] [(.long (-9223372036854775808 : Int64))])) _
    jvm_step X14.here [X14.here.top, hx, (hb hby d3_96), X14.method', Bd.returns, narrow]
    first | (intro acts; rw [hr _ acts rfl rfl rfl]) | rw [hr _ _ rfl rfl rfl]
    exact Steps.refl _
  · show QJ (-9223372036854775808 : Int64) h0 n0 _ T14.heap _
    rw [e14]
    exact ⟨rfl, N14, rfl⟩
set_option maxRecDepth 65536 in
set_option maxHeartbeats 40000000 in
theorem rm3_P0 (l : Launch) (Z : State) (a0 : Array Value) (hw : ∀ d ∈ tables_1, d.before a0 Z = true) (ws : List Jvm.Cond) (cc : Int64) (ru : Int64) (rs : Int32) (dy : Int64) (yd : Int32) (pl : Int32) (N : Nat) (h0 : Heap) (n0 : Nat) (Z0 : n0 ≤ h0.size) (hN : absI (tA pl rs) = Int32.ofNat N) (hN1 : N < 100) (hc18 : ¬ ((18 : Int32) < (absI (tA pl rs)))) (hc37 : (0 : Int32) < (tA pl rs)) (hc50 : (0 : Int32) < (tA pl rs)) (hc67 : ¬ ((proF ru dy) = (0 : Int32))) (hc79 : ¬ ((proF (ru * dy) (powF N)) = (0 : Int32))) (hc90 : ¬ ((proF (yd.toInt64) (1 : Int64)) = (0 : Int32))) (hnz118 : ¬ ((divF yd (1 : Int64)) = (0 : Int64))) (hnz125 : ¬ ((divF yd (1 : Int64)) = (0 : Int64))) (hc134 : ¬ ((proF cc ((perF ru dy (powF N)) / (divF yd (1 : Int64)))) = (0 : Int32))) (hc143 : ¬ ((proF cc ((perF ru dy (powF N)) % (divF yd (1 : Int64)))) = (0 : Int32))) (hnz162 : ¬ ((divF yd (1 : Int64)) = (0 : Int64))) (hnz171 : ¬ ((divF yd (1 : Int64)) = (0 : Int64))) (hc185 : (lcmpW (remF cc ((perF ru dy (powF N)) % (divF yd (1 : Int64))) (divF yd (1 : Int64))) ((divF yd (1 : Int64)) - (remF cc ((perF ru dy (powF N)) % (divF yd (1 : Int64))) (divF yd (1 : Int64))))) < (0 : Int32)) (hc212 : ¬ ((sumF (cc * ((perF ru dy (powF N)) / (divF yd (1 : Int64)))) ((cc * ((perF ru dy (powF N)) % (divF yd (1 : Int64)))) / (divF yd (1 : Int64)))) = (0 : Int32))) (hc225 : ¬ ((sumF ((cc * ((perF ru dy (powF N)) / (divF yd (1 : Int64)))) + ((cc * ((perF ru dy (powF N)) % (divF yd (1 : Int64)))) / (divF yd (1 : Int64)))) (0 : Int64)) = (0 : Int32))) :
    MetFree l (⟨"com/example/syndicata/syndicata/Accrual", "accruedUnits", "(JJIJII)J"⟩ : MethodName) (head1 (Jvm.Cond.code (⟨"com/example/syndicata/syndicata/Accrual", "accruedUnits", "(JJIJII)J"⟩ : MethodName) prog_1_method_9_code 32 (some .long) :: ws) ({ frames := 2, cells := 0, slots := 0, locals := 46 } : Room)) (fun aa U => aa = #[(.long cc), (.long ru), (.int rs), (.long dy), (.int yd), (.int pl)] ∧ Z.Warmed39 U.vm ∧ U.heap = h0) (fun _ _ _ _ _ => True) (fun _ U o U' => ∃ v L, o = .returned v ∧ QJ (sum3 (cc * ((perF ru dy (powF N)) / (divF yd (1 : Int64)))) ((cc * ((perF ru dy (powF N)) % (divF yd (1 : Int64)))) / (divF yd (1 : Int64))) (0 : Int64)) h0 n0 v U'.heap L ∧ FrameEnd U o U' L ({ frames := 2, cells := 0, slots := 0, locals := 46 } : Room).cells ({ frames := 2, cells := 0, slots := 0, locals := 46 } : Room).slots) := by
  refine MetFree.of_bodySF (plainFor_of_name pn_3) hisR ?_
  intro p e s m args below meth c s₁ Bd hml0 hP hK
  obtain ⟨rfl, hZ, hh⟩ := hP
  have hx := Bd.exec
  have hby := Bd.bytes
  have hml : c.maxLocals = 32 := hml0
  have hown : s.vm.findClass "com/example/syndicata/syndicata/Accrual" = some m.cls := findClass_of_methodNamed Bd.named
  have hnm := (name_of_methodNamed Bd.named Bd.method).1
  have X0 : Stand p l e ({ frames := 2, cells := 0, slots := 0, locals := 46 } : Room) s m #[(.long cc), (.long ru), (.int rs), (.long dy), (.int yd), (.int pl)] below meth c s₁ [] 0 0 := Stand.of_body Bd
  have e0 : s₁.heap = h0 := by rw [← hh, Bd.state]; rfl
  have N0 := Fr.nil n0
  have pre0 : ∀ zz, Steps p.tables e below (s₁.setTop (mkF m 0 #[.val (.long cc), .second, .val (.long ru), .second, .val (.int rs), .val (.long dy), .second, .val (.int yd), .val (.int pl), .unset, .unset, .unset, .unset, .unset, .unset, .unset, .unset, .unset, .unset, .unset, .unset, .unset, .unset, .unset, .unset, .unset, .unset, .unset, .unset, .unset, .unset, .unset] [])) zz → Steps p.tables e below (s₁.setTop (entryFrame m #[(.long cc), (.long ru), (.int rs), (.long dy), (.int yd), (.int pl)] 32)) zz := fun zz k => castTop (ef_3 m cc ru rs dy yd pl) k
  obtain ⟨_, _, ⟨T15, L15, k15, n15⟩, -, X15, ⟨Lc15, hQ15, l15, y15, z15⟩, st15⟩ := Jvm.LawKit.callS X0 hx (y := (⟨"java/lang/Math", "abs", "(I)I"⟩ : MethodName)) hown (mvT hZ (hw _ (List.mem_of_getElem? (i := 32) rfl))) (mvT hZ (hw _ (List.mem_of_getElem? (i := 33) rfl))) (mvT hZ (hw _ (List.mem_of_getElem? (i := 23) rfl))) (mvT hZ (hw _ (List.mem_of_getElem? (i := 34) rfl))) (by decide) (backOf (W := 0) (rm4 l Z a0 hw [] (tA pl rs) h0 n0 Z0) hZ (hw _ (List.mem_of_getElem? (i := 34) rfl)) (hw _ (List.mem_of_getElem? (i := 23) rfl)) (by decide) (by decide)) (g := (mkF m 13 #[.val (.long cc), .second, .val (.long ru), .second, .val (.int rs), .val (.long dy), .second, .val (.int yd), .val (.int pl), .val (.int (tA pl rs)), .unset, .unset, .unset, .unset, .unset, .unset, .unset, .unset, .unset, .unset, .unset, .unset, .unset, .unset, .unset, .unset, .unset, .unset, .unset, .unset, .unset, .unset] [(.int (tA pl rs))])) rfl (by rw [hml]; rfl) (argsL := [(.int (tA pl rs))]) (rest := []) (lenOf pd_3 rfl) rfl (by show 2 * 0 + _ ≤ _; exact Nat.le_of_eq rfl) (hb hby d3_13) (fun _ _ => ⟨rfl, e0, (by decide : 0 + 0 ≤ _), (by decide : 0 + 0 ≤ _)⟩)
  dsimp only [Pt.U, Pt.locs, Pt.cells, Pt.slots] at X15 l15 y15 z15 st15 hQ15
  subst l15 y15 z15
  obtain ⟨rfl, N15q, e15⟩ := hQ15
  have N15 := Fr.app N0 N15q
  obtain ⟨_, _, ⟨T16, L16, k16, n16⟩, -, X16, ⟨Lc16, hQ16, l16, y16, z16⟩, st16⟩ := Jvm.LawKit.callS X15 hx (y := (⟨"java/lang/Math", "abs", "(I)I"⟩ : MethodName)) hown (mvT hZ (hw _ (List.mem_of_getElem? (i := 32) rfl))) (mvT hZ (hw _ (List.mem_of_getElem? (i := 33) rfl))) (mvT hZ (hw _ (List.mem_of_getElem? (i := 23) rfl))) (mvT hZ (hw _ (List.mem_of_getElem? (i := 34) rfl))) (by decide) (backOf (W := 0) (rm4 l Z a0 hw [] (tA pl rs) h0 n0 Z0) hZ (hw _ (List.mem_of_getElem? (i := 34) rfl)) (hw _ (List.mem_of_getElem? (i := 23) rfl)) (by decide) (by decide)) (g := (mkF m 27 #[.val (.long cc), .second, .val (.long ru), .second, .val (.int rs), .val (.long dy), .second, .val (.int yd), .val (.int pl), .val (.int (tA pl rs)), .unset, .unset, .unset, .unset, .unset, .unset, .unset, .unset, .unset, .unset, .unset, .unset, .unset, .unset, .unset, .unset, .unset, .unset, .unset, .unset, .unset, .unset] [(.int (tA pl rs))])) rfl (by rw [hml]; rfl) (argsL := [(.int (tA pl rs))]) (rest := []) (lenOf pd_3 rfl) rfl (by show 2 * 0 + _ ≤ _; exact Nat.le_of_eq rfl) (hb hby d3_27) (fun _ _ => ⟨rfl, e15, (by decide : 0 + 0 ≤ _), (by decide : 0 + 0 ≤ _)⟩)
  dsimp only [Pt.U, Pt.locs, Pt.cells, Pt.slots] at X16 l16 y16 z16 st16 hQ16
  subst l16 y16 z16
  obtain ⟨rfl, N16q, e16⟩ := hQ16
  have N16 := Fr.app N15 N16q
  rw [hN] at st16
  obtain ⟨_, _, ⟨T17, L17, k17, n17⟩, -, X17, ⟨Lc17, hQ17, l17, y17, z17⟩, st17⟩ := Jvm.LawKit.callS X16 hx (y := (⟨"com/example/syndicata/syndicata/Accrual", "powerOfTen", "(I)J"⟩ : MethodName)) hown (mvT hZ (hw _ (List.mem_of_getElem? (i := 35) rfl))) (mvT hZ (hw _ (List.mem_of_getElem? (i := 36) rfl))) (mvT hZ (hw _ (List.mem_of_getElem? (i := 30) rfl))) (mvT hZ (hw _ (List.mem_of_getElem? (i := 37) rfl))) (by decide) (backOf (W := 0) (rm5 l Z a0 hw [] N h0 n0 Z0 hN1) hZ (hw _ (List.mem_of_getElem? (i := 37) rfl)) (hw _ (List.mem_of_getElem? (i := 30) rfl)) (by decide) (by decide)) (g := (mkF m 30 #[.val (.long cc), .second, .val (.long ru), .second, .val (.int rs), .val (.long dy), .second, .val (.int yd), .val (.int pl), .val (.int (tA pl rs)), .unset, .unset, .unset, .unset, .unset, .unset, .unset, .unset, .unset, .unset, .unset, .unset, .unset, .unset, .unset, .unset, .unset, .unset, .unset, .unset, .unset, .unset] [(.int (Int32.ofNat N))])) rfl (by rw [hml]; rfl) (argsL := [(.int (Int32.ofNat N))]) (rest := []) (lenOf pd_4 rfl) rfl (by show 2 * 0 + _ ≤ _; exact Nat.le_of_eq rfl) (hb hby d3_30) (fun _ _ => ⟨rfl, e16, (by decide : 0 + 0 ≤ _), (by decide : 0 + 0 ≤ _)⟩)
  dsimp only [Pt.U, Pt.locs, Pt.cells, Pt.slots] at X17 l17 y17 z17 st17 hQ17
  subst l17 y17 z17
  obtain ⟨rfl, N17q, e17⟩ := hQ17
  have N17 := Fr.app N16 N17q
  obtain ⟨_, _, ⟨T18, L18, k18, n18⟩, -, X18, ⟨Lc18, hQ18, l18, y18, z18⟩, st18⟩ := Jvm.LawKit.callS X17 hx (y := (⟨"com/example/syndicata/syndicata/Accrual", "productFits", "(JJ)Z"⟩ : MethodName)) hown (mvT hZ (hw _ (List.mem_of_getElem? (i := 39) rfl))) (mvT hZ (hw _ (List.mem_of_getElem? (i := 40) rfl))) (mvT hZ (hw _ (List.mem_of_getElem? (i := 30) rfl))) (mvT hZ (hw _ (List.mem_of_getElem? (i := 41) rfl))) (by decide) (backOf (W := 0) (rm6 l Z a0 hw [] ru dy h0 n0 Z0) hZ (hw _ (List.mem_of_getElem? (i := 41) rfl)) (hw _ (List.mem_of_getElem? (i := 30) rfl)) (by decide) (by decide)) (g := (mkF m 64 #[.val (.long cc), .second, .val (.long ru), .second, .val (.int rs), .val (.long dy), .second, .val (.int yd), .val (.int pl), .val (.int (tA pl rs)), .val (.long (powF N)), .second, .val (.long (powF N)), .second, .val (.long (1 : Int64)), .second, .unset, .unset, .unset, .unset, .unset, .unset, .unset, .unset, .unset, .unset, .unset, .unset, .unset, .unset, .unset, .unset] [(.long dy), (.long ru)])) rfl (by rw [hml]; rfl) (argsL := [(.long ru), (.long dy)]) (rest := []) (lenOf pd_5 rfl) rfl (by show 2 * 0 + _ ≤ _; exact Nat.le_of_eq rfl) (hb hby d3_64) (fun _ _ => ⟨rfl, e17, (by decide : 0 + 0 ≤ _), (by decide : 0 + 0 ≤ _)⟩)
  dsimp only [Pt.U, Pt.locs, Pt.cells, Pt.slots] at X18 l18 y18 z18 st18 hQ18
  subst l18 y18 z18
  obtain ⟨rfl, N18q, e18⟩ := hQ18
  have N18 := Fr.app N17 N18q
  obtain ⟨_, _, ⟨T19, L19, k19, n19⟩, -, X19, ⟨Lc19, hQ19, l19, y19, z19⟩, st19⟩ := Jvm.LawKit.callS X18 hx (y := (⟨"com/example/syndicata/syndicata/Accrual", "productFits", "(JJ)Z"⟩ : MethodName)) hown (mvT hZ (hw _ (List.mem_of_getElem? (i := 39) rfl))) (mvT hZ (hw _ (List.mem_of_getElem? (i := 40) rfl))) (mvT hZ (hw _ (List.mem_of_getElem? (i := 30) rfl))) (mvT hZ (hw _ (List.mem_of_getElem? (i := 41) rfl))) (by decide) (backOf (W := 0) (rm6 l Z a0 hw [] (ru * dy) (powF N) h0 n0 Z0) hZ (hw _ (List.mem_of_getElem? (i := 41) rfl)) (hw _ (List.mem_of_getElem? (i := 30) rfl)) (by decide) (by decide)) (g := (mkF m 76 #[.val (.long cc), .second, .val (.long ru), .second, .val (.int rs), .val (.long dy), .second, .val (.int yd), .val (.int pl), .val (.int (tA pl rs)), .val (.long (powF N)), .second, .val (.long (powF N)), .second, .val (.long (1 : Int64)), .second, .unset, .unset, .unset, .unset, .unset, .unset, .unset, .unset, .unset, .unset, .unset, .unset, .unset, .unset, .unset, .unset] [(.long (powF N)), (.long (ru * dy))])) rfl (by rw [hml]; rfl) (argsL := [(.long (ru * dy)), (.long (powF N))]) (rest := []) (lenOf pd_5 rfl) rfl (by show 2 * 0 + _ ≤ _; exact Nat.le_of_eq rfl) (hb hby d3_76) (fun _ _ => ⟨rfl, e18, (by decide : 0 + 0 ≤ _), (by decide : 0 + 0 ≤ _)⟩)
  dsimp only [Pt.U, Pt.locs, Pt.cells, Pt.slots] at X19 l19 y19 z19 st19 hQ19
  subst l19 y19 z19
  obtain ⟨rfl, N19q, e19⟩ := hQ19
  have N19 := Fr.app N18 N19q
  obtain ⟨_, _, ⟨T20, L20, k20, n20⟩, -, X20, ⟨Lc20, hQ20, l20, y20, z20⟩, st20⟩ := Jvm.LawKit.callS X19 hx (y := (⟨"com/example/syndicata/syndicata/Accrual", "productFits", "(JJ)Z"⟩ : MethodName)) hown (mvT hZ (hw _ (List.mem_of_getElem? (i := 39) rfl))) (mvT hZ (hw _ (List.mem_of_getElem? (i := 40) rfl))) (mvT hZ (hw _ (List.mem_of_getElem? (i := 30) rfl))) (mvT hZ (hw _ (List.mem_of_getElem? (i := 41) rfl))) (by decide) (backOf (W := 0) (rm6 l Z a0 hw [] (yd.toInt64) (1 : Int64) h0 n0 Z0) hZ (hw _ (List.mem_of_getElem? (i := 41) rfl)) (hw _ (List.mem_of_getElem? (i := 30) rfl)) (by decide) (by decide)) (g := (mkF m 87 #[.val (.long cc), .second, .val (.long ru), .second, .val (.int rs), .val (.long dy), .second, .val (.int yd), .val (.int pl), .val (.int (tA pl rs)), .val (.long (powF N)), .second, .val (.long (powF N)), .second, .val (.long (1 : Int64)), .second, .unset, .unset, .unset, .unset, .unset, .unset, .unset, .unset, .unset, .unset, .unset, .unset, .unset, .unset, .unset, .unset] [(.long (1 : Int64)), (.long (yd.toInt64))])) rfl (by rw [hml]; rfl) (argsL := [(.long (yd.toInt64)), (.long (1 : Int64))]) (rest := []) (lenOf pd_5 rfl) rfl (by show 2 * 0 + _ ≤ _; exact Nat.le_of_eq rfl) (hb hby d3_87) (fun _ _ => ⟨rfl, e19, (by decide : 0 + 0 ≤ _), (by decide : 0 + 0 ≤ _)⟩)
  dsimp only [Pt.U, Pt.locs, Pt.cells, Pt.slots] at X20 l20 y20 z20 st20 hQ20
  subst l20 y20 z20
  obtain ⟨rfl, N20q, e20⟩ := hQ20
  have N20 := Fr.app N19 N20q
  obtain ⟨_, _, ⟨T21, L21, k21, n21⟩, -, X21, ⟨Lc21, hQ21, l21, y21, z21⟩, st21⟩ := Jvm.LawKit.callS X20 hx (y := (⟨"com/example/syndicata/syndicata/Accrual", "productFits", "(JJ)Z"⟩ : MethodName)) hown (mvT hZ (hw _ (List.mem_of_getElem? (i := 39) rfl))) (mvT hZ (hw _ (List.mem_of_getElem? (i := 40) rfl))) (mvT hZ (hw _ (List.mem_of_getElem? (i := 30) rfl))) (mvT hZ (hw _ (List.mem_of_getElem? (i := 41) rfl))) (by decide) (backOf (W := 0) (rm6 l Z a0 hw [] cc ((perF ru dy (powF N)) / (divF yd (1 : Int64))) h0 n0 Z0) hZ (hw _ (List.mem_of_getElem? (i := 41) rfl)) (hw _ (List.mem_of_getElem? (i := 30) rfl)) (by decide) (by decide)) (g := (mkF m 131 #[.val (.long cc), .second, .val (.long ru), .second, .val (.int rs), .val (.long dy), .second, .val (.int yd), .val (.int pl), .val (.int (tA pl rs)), .val (.long (powF N)), .second, .val (.long (powF N)), .second, .val (.long (1 : Int64)), .second, .val (.long (perF ru dy (powF N))), .second, .val (.long (divF yd (1 : Int64))), .second, .val (.long ((perF ru dy (powF N)) / (divF yd (1 : Int64)))), .second, .val (.long ((perF ru dy (powF N)) % (divF yd (1 : Int64)))), .second, .unset, .unset, .unset, .unset, .unset, .unset, .unset, .unset] [(.long ((perF ru dy (powF N)) / (divF yd (1 : Int64)))), (.long cc)])) rfl (by rw [hml]; rfl) (argsL := [(.long cc), (.long ((perF ru dy (powF N)) / (divF yd (1 : Int64))))]) (rest := []) (lenOf pd_5 rfl) rfl (by show 2 * 0 + _ ≤ _; exact Nat.le_of_eq rfl) (hb hby d3_131) (fun _ _ => ⟨rfl, e20, (by decide : 0 + 0 ≤ _), (by decide : 0 + 0 ≤ _)⟩)
  dsimp only [Pt.U, Pt.locs, Pt.cells, Pt.slots] at X21 l21 y21 z21 st21 hQ21
  subst l21 y21 z21
  obtain ⟨rfl, N21q, e21⟩ := hQ21
  have N21 := Fr.app N20 N21q
  obtain ⟨_, _, ⟨T22, L22, k22, n22⟩, -, X22, ⟨Lc22, hQ22, l22, y22, z22⟩, st22⟩ := Jvm.LawKit.callS X21 hx (y := (⟨"com/example/syndicata/syndicata/Accrual", "productFits", "(JJ)Z"⟩ : MethodName)) hown (mvT hZ (hw _ (List.mem_of_getElem? (i := 39) rfl))) (mvT hZ (hw _ (List.mem_of_getElem? (i := 40) rfl))) (mvT hZ (hw _ (List.mem_of_getElem? (i := 30) rfl))) (mvT hZ (hw _ (List.mem_of_getElem? (i := 41) rfl))) (by decide) (backOf (W := 0) (rm6 l Z a0 hw [] cc ((perF ru dy (powF N)) % (divF yd (1 : Int64))) h0 n0 Z0) hZ (hw _ (List.mem_of_getElem? (i := 41) rfl)) (hw _ (List.mem_of_getElem? (i := 30) rfl)) (by decide) (by decide)) (g := (mkF m 140 #[.val (.long cc), .second, .val (.long ru), .second, .val (.int rs), .val (.long dy), .second, .val (.int yd), .val (.int pl), .val (.int (tA pl rs)), .val (.long (powF N)), .second, .val (.long (powF N)), .second, .val (.long (1 : Int64)), .second, .val (.long (perF ru dy (powF N))), .second, .val (.long (divF yd (1 : Int64))), .second, .val (.long ((perF ru dy (powF N)) / (divF yd (1 : Int64)))), .second, .val (.long ((perF ru dy (powF N)) % (divF yd (1 : Int64)))), .second, .unset, .unset, .unset, .unset, .unset, .unset, .unset, .unset] [(.long ((perF ru dy (powF N)) % (divF yd (1 : Int64)))), (.long cc)])) rfl (by rw [hml]; rfl) (argsL := [(.long cc), (.long ((perF ru dy (powF N)) % (divF yd (1 : Int64))))]) (rest := []) (lenOf pd_5 rfl) rfl (by show 2 * 0 + _ ≤ _; exact Nat.le_of_eq rfl) (hb hby d3_140) (fun _ _ => ⟨rfl, e21, (by decide : 0 + 0 ≤ _), (by decide : 0 + 0 ≤ _)⟩)
  dsimp only [Pt.U, Pt.locs, Pt.cells, Pt.slots] at X22 l22 y22 z22 st22 hQ22
  subst l22 y22 z22
  obtain ⟨rfl, N22q, e22⟩ := hQ22
  have N22 := Fr.app N21 N22q
  obtain ⟨_, _, ⟨T23, L23, k23, n23⟩, -, X23, ⟨Lc23, hQ23, l23, y23, z23⟩, st23⟩ := Jvm.LawKit.callS X22 hx (y := (⟨"java/lang/Math", "abs", "(J)J"⟩ : MethodName)) hown (mvT hZ (hw _ (List.mem_of_getElem? (i := 46) rfl))) (mvT hZ (hw _ (List.mem_of_getElem? (i := 26) rfl))) (mvT hZ (hw _ (List.mem_of_getElem? (i := 23) rfl))) (mvT hZ (hw _ (List.mem_of_getElem? (i := 27) rfl))) (by decide) (backOf (W := 0) (rm2 l Z a0 hw [] ((cc * ((perF ru dy (powF N)) % (divF yd (1 : Int64)))) % (divF yd (1 : Int64))) h0 n0 Z0) hZ (hw _ (List.mem_of_getElem? (i := 27) rfl)) (hw _ (List.mem_of_getElem? (i := 23) rfl)) (by decide) (by decide)) (g := (mkF m 172 #[.val (.long cc), .second, .val (.long ru), .second, .val (.int rs), .val (.long dy), .second, .val (.int yd), .val (.int pl), .val (.int (tA pl rs)), .val (.long (powF N)), .second, .val (.long (powF N)), .second, .val (.long (1 : Int64)), .second, .val (.long (perF ru dy (powF N))), .second, .val (.long (divF yd (1 : Int64))), .second, .val (.long ((perF ru dy (powF N)) / (divF yd (1 : Int64)))), .second, .val (.long ((perF ru dy (powF N)) % (divF yd (1 : Int64)))), .second, .val (.long (cc * ((perF ru dy (powF N)) / (divF yd (1 : Int64))))), .second, .val (.long ((cc * ((perF ru dy (powF N)) % (divF yd (1 : Int64)))) / (divF yd (1 : Int64)))), .second, .unset, .unset, .unset, .unset] [(.long ((cc * ((perF ru dy (powF N)) % (divF yd (1 : Int64)))) % (divF yd (1 : Int64))))])) rfl (by rw [hml]; rfl) (argsL := [(.long ((cc * ((perF ru dy (powF N)) % (divF yd (1 : Int64)))) % (divF yd (1 : Int64))))]) (rest := []) (lenOf pd_1 rfl) rfl (by show 2 * 0 + _ ≤ _; exact Nat.le_of_eq rfl) (hb hby d3_172) (fun _ _ => ⟨rfl, e22, (by decide : 0 + 0 ≤ _), (by decide : 0 + 0 ≤ _)⟩)
  dsimp only [Pt.U, Pt.locs, Pt.cells, Pt.slots] at X23 l23 y23 z23 st23 hQ23
  subst l23 y23 z23
  obtain ⟨rfl, N23q, e23⟩ := hQ23
  have N23 := Fr.app N22 N23q
  obtain ⟨_, _, ⟨T24, L24, k24, n24⟩, -, X24, ⟨Lc24, hQ24, l24, y24, z24⟩, st24⟩ := Jvm.LawKit.callS X23 hx (y := (⟨"com/example/syndicata/syndicata/Accrual", "sumFits", "(JJ)Z"⟩ : MethodName)) hown (mvT hZ (hw _ (List.mem_of_getElem? (i := 51) rfl))) (mvT hZ (hw _ (List.mem_of_getElem? (i := 52) rfl))) (mvT hZ (hw _ (List.mem_of_getElem? (i := 30) rfl))) (mvT hZ (hw _ (List.mem_of_getElem? (i := 53) rfl))) (by decide) (backOf (W := 0) (rm9 l Z a0 hw [] (cc * ((perF ru dy (powF N)) / (divF yd (1 : Int64)))) ((cc * ((perF ru dy (powF N)) % (divF yd (1 : Int64)))) / (divF yd (1 : Int64))) h0 n0 Z0) hZ (hw _ (List.mem_of_getElem? (i := 53) rfl)) (hw _ (List.mem_of_getElem? (i := 30) rfl)) (by decide) (by decide)) (g := (mkF m 209 #[.val (.long cc), .second, .val (.long ru), .second, .val (.int rs), .val (.long dy), .second, .val (.int yd), .val (.int pl), .val (.int (tA pl rs)), .val (.long (powF N)), .second, .val (.long (powF N)), .second, .val (.long (1 : Int64)), .second, .val (.long (perF ru dy (powF N))), .second, .val (.long (divF yd (1 : Int64))), .second, .val (.long ((perF ru dy (powF N)) / (divF yd (1 : Int64)))), .second, .val (.long ((perF ru dy (powF N)) % (divF yd (1 : Int64)))), .second, .val (.long (cc * ((perF ru dy (powF N)) / (divF yd (1 : Int64))))), .second, .val (.long ((cc * ((perF ru dy (powF N)) % (divF yd (1 : Int64)))) / (divF yd (1 : Int64)))), .second, .val (.long (remF cc ((perF ru dy (powF N)) % (divF yd (1 : Int64))) (divF yd (1 : Int64)))), .second, .val (.long (0 : Int64)), .second] [(.long ((cc * ((perF ru dy (powF N)) % (divF yd (1 : Int64)))) / (divF yd (1 : Int64)))), (.long (cc * ((perF ru dy (powF N)) / (divF yd (1 : Int64)))))])) rfl (by rw [hml]; rfl) (argsL := [(.long (cc * ((perF ru dy (powF N)) / (divF yd (1 : Int64))))), (.long ((cc * ((perF ru dy (powF N)) % (divF yd (1 : Int64)))) / (divF yd (1 : Int64))))]) (rest := []) (lenOf pd_5 rfl) rfl (by show 2 * 0 + _ ≤ _; exact Nat.le_of_eq rfl) (hb hby d3_209) (fun _ _ => ⟨rfl, e23, (by decide : 0 + 0 ≤ _), (by decide : 0 + 0 ≤ _)⟩)
  dsimp only [Pt.U, Pt.locs, Pt.cells, Pt.slots] at X24 l24 y24 z24 st24 hQ24
  subst l24 y24 z24
  obtain ⟨rfl, N24q, e24⟩ := hQ24
  have N24 := Fr.app N23 N24q
  obtain ⟨_, _, ⟨T25, L25, k25, n25⟩, -, X25, ⟨Lc25, hQ25, l25, y25, z25⟩, st25⟩ := Jvm.LawKit.callS X24 hx (y := (⟨"com/example/syndicata/syndicata/Accrual", "sumFits", "(JJ)Z"⟩ : MethodName)) hown (mvT hZ (hw _ (List.mem_of_getElem? (i := 51) rfl))) (mvT hZ (hw _ (List.mem_of_getElem? (i := 52) rfl))) (mvT hZ (hw _ (List.mem_of_getElem? (i := 30) rfl))) (mvT hZ (hw _ (List.mem_of_getElem? (i := 53) rfl))) (by decide) (backOf (W := 0) (rm9 l Z a0 hw [] ((cc * ((perF ru dy (powF N)) / (divF yd (1 : Int64)))) + ((cc * ((perF ru dy (powF N)) % (divF yd (1 : Int64)))) / (divF yd (1 : Int64)))) (0 : Int64) h0 n0 Z0) hZ (hw _ (List.mem_of_getElem? (i := 53) rfl)) (hw _ (List.mem_of_getElem? (i := 30) rfl)) (by decide) (by decide)) (g := (mkF m 222 #[.val (.long cc), .second, .val (.long ru), .second, .val (.int rs), .val (.long dy), .second, .val (.int yd), .val (.int pl), .val (.int (tA pl rs)), .val (.long (powF N)), .second, .val (.long (powF N)), .second, .val (.long (1 : Int64)), .second, .val (.long (perF ru dy (powF N))), .second, .val (.long (divF yd (1 : Int64))), .second, .val (.long ((perF ru dy (powF N)) / (divF yd (1 : Int64)))), .second, .val (.long ((perF ru dy (powF N)) % (divF yd (1 : Int64)))), .second, .val (.long (cc * ((perF ru dy (powF N)) / (divF yd (1 : Int64))))), .second, .val (.long ((cc * ((perF ru dy (powF N)) % (divF yd (1 : Int64)))) / (divF yd (1 : Int64)))), .second, .val (.long (remF cc ((perF ru dy (powF N)) % (divF yd (1 : Int64))) (divF yd (1 : Int64)))), .second, .val (.long (0 : Int64)), .second] [(.long (0 : Int64)), (.long ((cc * ((perF ru dy (powF N)) / (divF yd (1 : Int64)))) + ((cc * ((perF ru dy (powF N)) % (divF yd (1 : Int64)))) / (divF yd (1 : Int64)))))])) rfl (by rw [hml]; rfl) (argsL := [(.long ((cc * ((perF ru dy (powF N)) / (divF yd (1 : Int64)))) + ((cc * ((perF ru dy (powF N)) % (divF yd (1 : Int64)))) / (divF yd (1 : Int64))))), (.long (0 : Int64))]) (rest := []) (lenOf pd_5 rfl) rfl (by show 2 * 0 + _ ≤ _; exact Nat.le_of_eq rfl) (hb hby d3_222) (fun _ _ => ⟨rfl, e24, (by decide : 0 + 0 ≤ _), (by decide : 0 + 0 ≤ _)⟩)
  dsimp only [Pt.U, Pt.locs, Pt.cells, Pt.slots] at X25 l25 y25 z25 st25 hQ25
  subst l25 y25 z25
  obtain ⟨rfl, N25q, e25⟩ := hQ25
  have N25 := Fr.app N24 N25q
  obtain ⟨fs, hr, hrun, hended, hW, hsame⟩ := X25.leave (v := some (.long (sum3 (cc * ((perF ru dy (powF N)) / (divF yd (1 : Int64)))) ((cc * ((perF ru dy (powF N)) % (divF yd (1 : Int64)))) / (divF yd (1 : Int64))) (0 : Int64)))) (fun h => by rw [Bd.returns] at h; cases h)
  refine ⟨_, _, pre0 _ ?_, hrun, hended, _, _, rfl, ?_, ⟨_, rfl⟩, hW, hsame.mono (by decide) (by decide)⟩
  · show Steps p.tables e below (s₁.setTop (mkF m 0 #[.val (.long cc), .second, .val (.long ru), .second, .val (.int rs), .val (.long dy), .second, .val (.int yd), .val (.int pl), .unset, .unset, .unset, .unset, .unset, .unset, .unset, .unset, .unset, .unset, .unset, .unset, .unset, .unset, .unset, .unset, .unset, .unset, .unset, .unset, .unset, .unset, .unset] [])) _
    refine XS.iload X0.here hx rfl (hb hby d3_0) rfl ?_
    refine XS.iconst X0.here hx rfl (hb hby d3_2) ?_
    refine XS.isub X0.here hx rfl (hb hby d3_3) rfl ?_
    refine XS.iload X0.here hx rfl (hb hby d3_4) rfl ?_
    refine XS.isub X0.here hx rfl (hb hby d3_6) rfl ?_
    refine XS.iconst X0.here hx rfl (hb hby d3_7) ?_
    refine XS.isub X0.here hx rfl (hb hby d3_8) rfl ?_
    show Steps p.tables e below (s₁.setTop (mkF m 9 #[.val (.long cc), .second, .val (.long ru), .second, .val (.int rs), .val (.long dy), .second, .val (.int yd), .val (.int pl), .unset, .unset, .unset, .unset, .unset, .unset, .unset, .unset, .unset, .unset, .unset, .unset, .unset, .unset, .unset, .unset, .unset, .unset, .unset, .unset, .unset, .unset, .unset] [(.int (tA pl rs))])) _
    refine XS.istore X0.here hx rfl (hb hby d3_9) rfl (l' := #[.val (.long cc), .second, .val (.long ru), .second, .val (.int rs), .val (.long dy), .second, .val (.int yd), .val (.int pl), .val (.int (tA pl rs)), .unset, .unset, .unset, .unset, .unset, .unset, .unset, .unset, .unset, .unset, .unset, .unset, .unset, .unset, .unset, .unset, .unset, .unset, .unset, .unset, .unset, .unset]) rfl ?_
    refine XS.iload X0.here hx rfl (hb hby d3_11) rfl ?_
    show Steps p.tables e below (s₁.setTop (mkF m 13 #[.val (.long cc), .second, .val (.long ru), .second, .val (.int rs), .val (.long dy), .second, .val (.int yd), .val (.int pl), .val (.int (tA pl rs)), .unset, .unset, .unset, .unset, .unset, .unset, .unset, .unset, .unset, .unset, .unset, .unset, .unset, .unset, .unset, .unset, .unset, .unset, .unset, .unset, .unset, .unset] [(.int (tA pl rs))])) _
    refine st15 _ ?_
    refine XS.bipush X15.here hx rfl (hb hby d3_16) ?_
    refine XS.icmpYes X15.here hx rfl (pc0 := 18) (pc' := 25) rfl (hb hby d3_18) rfl (flt hc18).2.2.2 (by decide) (by decide) ?_
    refine XS.iload X15.here hx rfl (hb hby d3_25) rfl ?_
    show Steps p.tables e below (T15.setTop (mkF m 27 #[.val (.long cc), .second, .val (.long ru), .second, .val (.int rs), .val (.long dy), .second, .val (.int yd), .val (.int pl), .val (.int (tA pl rs)), .unset, .unset, .unset, .unset, .unset, .unset, .unset, .unset, .unset, .unset, .unset, .unset, .unset, .unset, .unset, .unset, .unset, .unset, .unset, .unset, .unset, .unset] [(.int (tA pl rs))])) _
    refine st16 _ ?_
    show Steps p.tables e below (T16.setTop (mkF m 30 #[.val (.long cc), .second, .val (.long ru), .second, .val (.int rs), .val (.long dy), .second, .val (.int yd), .val (.int pl), .val (.int (tA pl rs)), .unset, .unset, .unset, .unset, .unset, .unset, .unset, .unset, .unset, .unset, .unset, .unset, .unset, .unset, .unset, .unset, .unset, .unset, .unset, .unset, .unset, .unset] [(.int (Int32.ofNat N))])) _
    refine st17 _ ?_
    refine XS.lstore X17.here hx rfl (hb hby d3_33) rfl (l' := #[.val (.long cc), .second, .val (.long ru), .second, .val (.int rs), .val (.long dy), .second, .val (.int yd), .val (.int pl), .val (.int (tA pl rs)), .val (.long (powF N)), .second, .unset, .unset, .unset, .unset, .unset, .unset, .unset, .unset, .unset, .unset, .unset, .unset, .unset, .unset, .unset, .unset, .unset, .unset, .unset, .unset]) rfl ?_
    refine XS.iload X17.here hx rfl (hb hby d3_35) rfl ?_
    refine XS.ifNo X17.here hx rfl (hb hby d3_37) rfl ((if0 _ _).trans (tlt hc37).2.2.2) ?_
    refine XS.lload X17.here hx rfl (hb hby d3_40) rfl ?_
    refine XS.goto X17.here hx rfl (pc0 := 42) (pc' := 46) rfl (hb hby d3_42) (by decide) (by decide) ?_
    refine XS.lstore X17.here hx rfl (hb hby d3_46) rfl (l' := #[.val (.long cc), .second, .val (.long ru), .second, .val (.int rs), .val (.long dy), .second, .val (.int yd), .val (.int pl), .val (.int (tA pl rs)), .val (.long (powF N)), .second, .val (.long (powF N)), .second, .unset, .unset, .unset, .unset, .unset, .unset, .unset, .unset, .unset, .unset, .unset, .unset, .unset, .unset, .unset, .unset, .unset, .unset]) rfl ?_
    refine XS.iload X17.here hx rfl (hb hby d3_48) rfl ?_
    show Steps p.tables e below (T17.setTop (mkF m 50 #[.val (.long cc), .second, .val (.long ru), .second, .val (.int rs), .val (.long dy), .second, .val (.int yd), .val (.int pl), .val (.int (tA pl rs)), .val (.long (powF N)), .second, .val (.long (powF N)), .second, .unset, .unset, .unset, .unset, .unset, .unset, .unset, .unset, .unset, .unset, .unset, .unset, .unset, .unset, .unset, .unset, .unset, .unset] [(.int (tA pl rs))])) _
    refine XS.ifNo X17.here hx rfl (hb hby d3_50) rfl ((if0 _ _).trans (tlt hc50).2.2.2) ?_
    refine XS.lconst X17.here hx rfl (hb hby d3_53) ?_
    refine XS.goto X17.here hx rfl (pc0 := 54) (pc' := 59) rfl (hb hby d3_54) (by decide) (by decide) ?_
    refine XS.lstore X17.here hx rfl (hb hby d3_59) rfl (l' := #[.val (.long cc), .second, .val (.long ru), .second, .val (.int rs), .val (.long dy), .second, .val (.int yd), .val (.int pl), .val (.int (tA pl rs)), .val (.long (powF N)), .second, .val (.long (powF N)), .second, .val (.long (1 : Int64)), .second, .unset, .unset, .unset, .unset, .unset, .unset, .unset, .unset, .unset, .unset, .unset, .unset, .unset, .unset, .unset, .unset]) rfl ?_
    refine XS.lloadN X17.here hx rfl (hb hby d3_61) rfl ?_
    refine XS.lload X17.here hx rfl (hb hby d3_62) rfl ?_
    show Steps p.tables e below (T17.setTop (mkF m 64 #[.val (.long cc), .second, .val (.long ru), .second, .val (.int rs), .val (.long dy), .second, .val (.int yd), .val (.int pl), .val (.int (tA pl rs)), .val (.long (powF N)), .second, .val (.long (powF N)), .second, .val (.long (1 : Int64)), .second, .unset, .unset, .unset, .unset, .unset, .unset, .unset, .unset, .unset, .unset, .unset, .unset, .unset, .unset, .unset, .unset] [(.long dy), (.long ru)])) _
    refine st18 _ ?_
    refine XS.ifNo X18.here hx rfl (hb hby d3_67) rfl ((if0 _ _).trans (feq hc67).1) ?_
    refine XS.lloadN X18.here hx rfl (hb hby d3_70) rfl ?_
    refine XS.lload X18.here hx rfl (hb hby d3_71) rfl ?_
    refine XS.lmul X18.here hx rfl (hb hby d3_73) rfl ?_
    refine XS.lload X18.here hx rfl (hb hby d3_74) rfl ?_
    show Steps p.tables e below (T18.setTop (mkF m 76 #[.val (.long cc), .second, .val (.long ru), .second, .val (.int rs), .val (.long dy), .second, .val (.int yd), .val (.int pl), .val (.int (tA pl rs)), .val (.long (powF N)), .second, .val (.long (powF N)), .second, .val (.long (1 : Int64)), .second, .unset, .unset, .unset, .unset, .unset, .unset, .unset, .unset, .unset, .unset, .unset, .unset, .unset, .unset, .unset, .unset] [(.long (powF N)), (.long (ru * dy))])) _
    refine st19 _ ?_
    refine XS.ifNo X19.here hx rfl (hb hby d3_79) rfl ((if0 _ _).trans (feq hc79).1) ?_
    refine XS.iload X19.here hx rfl (hb hby d3_82) rfl ?_
    refine XS.i2l X19.here hx rfl (hb hby d3_84) rfl ?_
    refine XS.lload X19.here hx rfl (hb hby d3_85) rfl ?_
    show Steps p.tables e below (T19.setTop (mkF m 87 #[.val (.long cc), .second, .val (.long ru), .second, .val (.int rs), .val (.long dy), .second, .val (.int yd), .val (.int pl), .val (.int (tA pl rs)), .val (.long (powF N)), .second, .val (.long (powF N)), .second, .val (.long (1 : Int64)), .second, .unset, .unset, .unset, .unset, .unset, .unset, .unset, .unset, .unset, .unset, .unset, .unset, .unset, .unset, .unset, .unset] [(.long (1 : Int64)), (.long (yd.toInt64))])) _
    refine st20 _ ?_
    refine XS.ifYes X20.here hx rfl (pc0 := 90) (pc' := 97) rfl (hb hby d3_90) rfl ((if0 _ _).trans (feq hc90).2) (by decide) (by decide) ?_
    refine XS.lloadN X20.here hx rfl (hb hby d3_97) rfl ?_
    refine XS.lload X20.here hx rfl (hb hby d3_98) rfl ?_
    refine XS.lmul X20.here hx rfl (hb hby d3_100) rfl ?_
    refine XS.lload X20.here hx rfl (hb hby d3_101) rfl ?_
    refine XS.lmul X20.here hx rfl (hb hby d3_103) rfl ?_
    show Steps p.tables e below (T20.setTop (mkF m 104 #[.val (.long cc), .second, .val (.long ru), .second, .val (.int rs), .val (.long dy), .second, .val (.int yd), .val (.int pl), .val (.int (tA pl rs)), .val (.long (powF N)), .second, .val (.long (powF N)), .second, .val (.long (1 : Int64)), .second, .unset, .unset, .unset, .unset, .unset, .unset, .unset, .unset, .unset, .unset, .unset, .unset, .unset, .unset, .unset, .unset] [(.long (perF ru dy (powF N)))])) _
    refine XS.lstore X20.here hx rfl (hb hby d3_104) rfl (l' := #[.val (.long cc), .second, .val (.long ru), .second, .val (.int rs), .val (.long dy), .second, .val (.int yd), .val (.int pl), .val (.int (tA pl rs)), .val (.long (powF N)), .second, .val (.long (powF N)), .second, .val (.long (1 : Int64)), .second, .val (.long (perF ru dy (powF N))), .second, .unset, .unset, .unset, .unset, .unset, .unset, .unset, .unset, .unset, .unset, .unset, .unset, .unset, .unset]) rfl ?_
    refine XS.iload X20.here hx rfl (hb hby d3_106) rfl ?_
    refine XS.i2l X20.here hx rfl (hb hby d3_108) rfl ?_
    refine XS.lload X20.here hx rfl (hb hby d3_109) rfl ?_
    refine XS.lmul X20.here hx rfl (hb hby d3_111) rfl ?_
    show Steps p.tables e below (T20.setTop (mkF m 112 #[.val (.long cc), .second, .val (.long ru), .second, .val (.int rs), .val (.long dy), .second, .val (.int yd), .val (.int pl), .val (.int (tA pl rs)), .val (.long (powF N)), .second, .val (.long (powF N)), .second, .val (.long (1 : Int64)), .second, .val (.long (perF ru dy (powF N))), .second, .unset, .unset, .unset, .unset, .unset, .unset, .unset, .unset, .unset, .unset, .unset, .unset, .unset, .unset] [(.long (divF yd (1 : Int64)))])) _
    refine XS.lstore X20.here hx rfl (hb hby d3_112) rfl (l' := #[.val (.long cc), .second, .val (.long ru), .second, .val (.int rs), .val (.long dy), .second, .val (.int yd), .val (.int pl), .val (.int (tA pl rs)), .val (.long (powF N)), .second, .val (.long (powF N)), .second, .val (.long (1 : Int64)), .second, .val (.long (perF ru dy (powF N))), .second, .val (.long (divF yd (1 : Int64))), .second, .unset, .unset, .unset, .unset, .unset, .unset, .unset, .unset, .unset, .unset, .unset, .unset]) rfl ?_
    refine XS.lload X20.here hx rfl (hb hby d3_114) rfl ?_
    refine XS.lload X20.here hx rfl (hb hby d3_116) rfl ?_
    refine XS.ldiv X20.here hx rfl (hb hby d3_118) rfl hnz118 ?_
    show Steps p.tables e below (T20.setTop (mkF m 119 #[.val (.long cc), .second, .val (.long ru), .second, .val (.int rs), .val (.long dy), .second, .val (.int yd), .val (.int pl), .val (.int (tA pl rs)), .val (.long (powF N)), .second, .val (.long (powF N)), .second, .val (.long (1 : Int64)), .second, .val (.long (perF ru dy (powF N))), .second, .val (.long (divF yd (1 : Int64))), .second, .unset, .unset, .unset, .unset, .unset, .unset, .unset, .unset, .unset, .unset, .unset, .unset] [(.long ((perF ru dy (powF N)) / (divF yd (1 : Int64))))])) _
    refine XS.lstore X20.here hx rfl (hb hby d3_119) rfl (l' := #[.val (.long cc), .second, .val (.long ru), .second, .val (.int rs), .val (.long dy), .second, .val (.int yd), .val (.int pl), .val (.int (tA pl rs)), .val (.long (powF N)), .second, .val (.long (powF N)), .second, .val (.long (1 : Int64)), .second, .val (.long (perF ru dy (powF N))), .second, .val (.long (divF yd (1 : Int64))), .second, .val (.long ((perF ru dy (powF N)) / (divF yd (1 : Int64)))), .second, .unset, .unset, .unset, .unset, .unset, .unset, .unset, .unset, .unset, .unset]) rfl ?_
    refine XS.lload X20.here hx rfl (hb hby d3_121) rfl ?_
    refine XS.lload X20.here hx rfl (hb hby d3_123) rfl ?_
    refine gwLrem X20.here hx rfl (hb hby d3_125) rfl hnz125 ?_
    show Steps p.tables e below (T20.setTop (mkF m 126 #[.val (.long cc), .second, .val (.long ru), .second, .val (.int rs), .val (.long dy), .second, .val (.int yd), .val (.int pl), .val (.int (tA pl rs)), .val (.long (powF N)), .second, .val (.long (powF N)), .second, .val (.long (1 : Int64)), .second, .val (.long (perF ru dy (powF N))), .second, .val (.long (divF yd (1 : Int64))), .second, .val (.long ((perF ru dy (powF N)) / (divF yd (1 : Int64)))), .second, .unset, .unset, .unset, .unset, .unset, .unset, .unset, .unset, .unset, .unset] [(.long ((perF ru dy (powF N)) % (divF yd (1 : Int64))))])) _
    refine XS.lstore X20.here hx rfl (hb hby d3_126) rfl (l' := #[.val (.long cc), .second, .val (.long ru), .second, .val (.int rs), .val (.long dy), .second, .val (.int yd), .val (.int pl), .val (.int (tA pl rs)), .val (.long (powF N)), .second, .val (.long (powF N)), .second, .val (.long (1 : Int64)), .second, .val (.long (perF ru dy (powF N))), .second, .val (.long (divF yd (1 : Int64))), .second, .val (.long ((perF ru dy (powF N)) / (divF yd (1 : Int64)))), .second, .val (.long ((perF ru dy (powF N)) % (divF yd (1 : Int64)))), .second, .unset, .unset, .unset, .unset, .unset, .unset, .unset, .unset]) rfl ?_
    refine XS.lloadN X20.here hx rfl (hb hby d3_128) rfl ?_
    refine XS.lload X20.here hx rfl (hb hby d3_129) rfl ?_
    show Steps p.tables e below (T20.setTop (mkF m 131 #[.val (.long cc), .second, .val (.long ru), .second, .val (.int rs), .val (.long dy), .second, .val (.int yd), .val (.int pl), .val (.int (tA pl rs)), .val (.long (powF N)), .second, .val (.long (powF N)), .second, .val (.long (1 : Int64)), .second, .val (.long (perF ru dy (powF N))), .second, .val (.long (divF yd (1 : Int64))), .second, .val (.long ((perF ru dy (powF N)) / (divF yd (1 : Int64)))), .second, .val (.long ((perF ru dy (powF N)) % (divF yd (1 : Int64)))), .second, .unset, .unset, .unset, .unset, .unset, .unset, .unset, .unset] [(.long ((perF ru dy (powF N)) / (divF yd (1 : Int64)))), (.long cc)])) _
    refine st21 _ ?_
    refine XS.ifNo X21.here hx rfl (hb hby d3_134) rfl ((if0 _ _).trans (feq hc134).1) ?_
    refine XS.lloadN X21.here hx rfl (hb hby d3_137) rfl ?_
    refine XS.lload X21.here hx rfl (hb hby d3_138) rfl ?_
    show Steps p.tables e below (T21.setTop (mkF m 140 #[.val (.long cc), .second, .val (.long ru), .second, .val (.int rs), .val (.long dy), .second, .val (.int yd), .val (.int pl), .val (.int (tA pl rs)), .val (.long (powF N)), .second, .val (.long (powF N)), .second, .val (.long (1 : Int64)), .second, .val (.long (perF ru dy (powF N))), .second, .val (.long (divF yd (1 : Int64))), .second, .val (.long ((perF ru dy (powF N)) / (divF yd (1 : Int64)))), .second, .val (.long ((perF ru dy (powF N)) % (divF yd (1 : Int64)))), .second, .unset, .unset, .unset, .unset, .unset, .unset, .unset, .unset] [(.long ((perF ru dy (powF N)) % (divF yd (1 : Int64)))), (.long cc)])) _
    refine st22 _ ?_
    refine XS.ifYes X22.here hx rfl (pc0 := 143) (pc' := 150) rfl (hb hby d3_143) rfl ((if0 _ _).trans (feq hc143).2) (by decide) (by decide) ?_
    refine XS.lloadN X22.here hx rfl (hb hby d3_150) rfl ?_
    refine XS.lload X22.here hx rfl (hb hby d3_151) rfl ?_
    refine XS.lmul X22.here hx rfl (hb hby d3_153) rfl ?_
    refine XS.lstore X22.here hx rfl (hb hby d3_154) rfl (l' := #[.val (.long cc), .second, .val (.long ru), .second, .val (.int rs), .val (.long dy), .second, .val (.int yd), .val (.int pl), .val (.int (tA pl rs)), .val (.long (powF N)), .second, .val (.long (powF N)), .second, .val (.long (1 : Int64)), .second, .val (.long (perF ru dy (powF N))), .second, .val (.long (divF yd (1 : Int64))), .second, .val (.long ((perF ru dy (powF N)) / (divF yd (1 : Int64)))), .second, .val (.long ((perF ru dy (powF N)) % (divF yd (1 : Int64)))), .second, .val (.long (cc * ((perF ru dy (powF N)) / (divF yd (1 : Int64))))), .second, .unset, .unset, .unset, .unset, .unset, .unset]) rfl ?_
    refine XS.lloadN X22.here hx rfl (hb hby d3_156) rfl ?_
    refine XS.lload X22.here hx rfl (hb hby d3_157) rfl ?_
    show Steps p.tables e below (T22.setTop (mkF m 159 #[.val (.long cc), .second, .val (.long ru), .second, .val (.int rs), .val (.long dy), .second, .val (.int yd), .val (.int pl), .val (.int (tA pl rs)), .val (.long (powF N)), .second, .val (.long (powF N)), .second, .val (.long (1 : Int64)), .second, .val (.long (perF ru dy (powF N))), .second, .val (.long (divF yd (1 : Int64))), .second, .val (.long ((perF ru dy (powF N)) / (divF yd (1 : Int64)))), .second, .val (.long ((perF ru dy (powF N)) % (divF yd (1 : Int64)))), .second, .val (.long (cc * ((perF ru dy (powF N)) / (divF yd (1 : Int64))))), .second, .unset, .unset, .unset, .unset, .unset, .unset] [(.long ((perF ru dy (powF N)) % (divF yd (1 : Int64)))), (.long cc)])) _
    refine XS.lmul X22.here hx rfl (hb hby d3_159) rfl ?_
    refine XS.lload X22.here hx rfl (hb hby d3_160) rfl ?_
    refine XS.ldiv X22.here hx rfl (hb hby d3_162) rfl hnz162 ?_
    refine XS.lstore X22.here hx rfl (hb hby d3_163) rfl (l' := #[.val (.long cc), .second, .val (.long ru), .second, .val (.int rs), .val (.long dy), .second, .val (.int yd), .val (.int pl), .val (.int (tA pl rs)), .val (.long (powF N)), .second, .val (.long (powF N)), .second, .val (.long (1 : Int64)), .second, .val (.long (perF ru dy (powF N))), .second, .val (.long (divF yd (1 : Int64))), .second, .val (.long ((perF ru dy (powF N)) / (divF yd (1 : Int64)))), .second, .val (.long ((perF ru dy (powF N)) % (divF yd (1 : Int64)))), .second, .val (.long (cc * ((perF ru dy (powF N)) / (divF yd (1 : Int64))))), .second, .val (.long ((cc * ((perF ru dy (powF N)) % (divF yd (1 : Int64)))) / (divF yd (1 : Int64)))), .second, .unset, .unset, .unset, .unset]) rfl ?_
    refine XS.lloadN X22.here hx rfl (hb hby d3_165) rfl ?_
    refine XS.lload X22.here hx rfl (hb hby d3_166) rfl ?_
    refine XS.lmul X22.here hx rfl (hb hby d3_168) rfl ?_
    refine XS.lload X22.here hx rfl (hb hby d3_169) rfl ?_
    show Steps p.tables e below (T22.setTop (mkF m 171 #[.val (.long cc), .second, .val (.long ru), .second, .val (.int rs), .val (.long dy), .second, .val (.int yd), .val (.int pl), .val (.int (tA pl rs)), .val (.long (powF N)), .second, .val (.long (powF N)), .second, .val (.long (1 : Int64)), .second, .val (.long (perF ru dy (powF N))), .second, .val (.long (divF yd (1 : Int64))), .second, .val (.long ((perF ru dy (powF N)) / (divF yd (1 : Int64)))), .second, .val (.long ((perF ru dy (powF N)) % (divF yd (1 : Int64)))), .second, .val (.long (cc * ((perF ru dy (powF N)) / (divF yd (1 : Int64))))), .second, .val (.long ((cc * ((perF ru dy (powF N)) % (divF yd (1 : Int64)))) / (divF yd (1 : Int64)))), .second, .unset, .unset, .unset, .unset] [(.long (divF yd (1 : Int64))), (.long (cc * ((perF ru dy (powF N)) % (divF yd (1 : Int64)))))])) _
    refine gwLrem X22.here hx rfl (hb hby d3_171) rfl hnz171 ?_
    show Steps p.tables e below (T22.setTop (mkF m 172 #[.val (.long cc), .second, .val (.long ru), .second, .val (.int rs), .val (.long dy), .second, .val (.int yd), .val (.int pl), .val (.int (tA pl rs)), .val (.long (powF N)), .second, .val (.long (powF N)), .second, .val (.long (1 : Int64)), .second, .val (.long (perF ru dy (powF N))), .second, .val (.long (divF yd (1 : Int64))), .second, .val (.long ((perF ru dy (powF N)) / (divF yd (1 : Int64)))), .second, .val (.long ((perF ru dy (powF N)) % (divF yd (1 : Int64)))), .second, .val (.long (cc * ((perF ru dy (powF N)) / (divF yd (1 : Int64))))), .second, .val (.long ((cc * ((perF ru dy (powF N)) % (divF yd (1 : Int64)))) / (divF yd (1 : Int64)))), .second, .unset, .unset, .unset, .unset] [(.long ((cc * ((perF ru dy (powF N)) % (divF yd (1 : Int64)))) % (divF yd (1 : Int64))))])) _
    refine st23 _ ?_
    show Steps p.tables e below (T23.setTop (mkF m 175 #[.val (.long cc), .second, .val (.long ru), .second, .val (.int rs), .val (.long dy), .second, .val (.int yd), .val (.int pl), .val (.int (tA pl rs)), .val (.long (powF N)), .second, .val (.long (powF N)), .second, .val (.long (1 : Int64)), .second, .val (.long (perF ru dy (powF N))), .second, .val (.long (divF yd (1 : Int64))), .second, .val (.long ((perF ru dy (powF N)) / (divF yd (1 : Int64)))), .second, .val (.long ((perF ru dy (powF N)) % (divF yd (1 : Int64)))), .second, .val (.long (cc * ((perF ru dy (powF N)) / (divF yd (1 : Int64))))), .second, .val (.long ((cc * ((perF ru dy (powF N)) % (divF yd (1 : Int64)))) / (divF yd (1 : Int64)))), .second, .unset, .unset, .unset, .unset] [(.long (remF cc ((perF ru dy (powF N)) % (divF yd (1 : Int64))) (divF yd (1 : Int64))))])) _
    refine XS.lstore X23.here hx rfl (hb hby d3_175) rfl (l' := #[.val (.long cc), .second, .val (.long ru), .second, .val (.int rs), .val (.long dy), .second, .val (.int yd), .val (.int pl), .val (.int (tA pl rs)), .val (.long (powF N)), .second, .val (.long (powF N)), .second, .val (.long (1 : Int64)), .second, .val (.long (perF ru dy (powF N))), .second, .val (.long (divF yd (1 : Int64))), .second, .val (.long ((perF ru dy (powF N)) / (divF yd (1 : Int64)))), .second, .val (.long ((perF ru dy (powF N)) % (divF yd (1 : Int64)))), .second, .val (.long (cc * ((perF ru dy (powF N)) / (divF yd (1 : Int64))))), .second, .val (.long ((cc * ((perF ru dy (powF N)) % (divF yd (1 : Int64)))) / (divF yd (1 : Int64)))), .second, .val (.long (remF cc ((perF ru dy (powF N)) % (divF yd (1 : Int64))) (divF yd (1 : Int64)))), .second, .unset, .unset]) rfl ?_
    refine XS.lload X23.here hx rfl (hb hby d3_177) rfl ?_
    refine XS.lload X23.here hx rfl (hb hby d3_179) rfl ?_
    refine XS.lload X23.here hx rfl (hb hby d3_181) rfl ?_
    refine XS.lsub X23.here hx rfl (hb hby d3_183) rfl ?_
    refine XS.lcmp X23.here hx rfl (hb hby d3_184) rfl ?_
    refine XS.ifYes X23.here hx rfl (pc0 := 185) (pc' := 202) rfl (hb hby d3_185) rfl ((if0 _ _).trans (tlt hc185).1) (by decide) (by decide) ?_
    refine XS.lconst X23.here hx rfl (hb hby d3_202) ?_
    show Steps p.tables e below (T23.setTop (mkF m 203 #[.val (.long cc), .second, .val (.long ru), .second, .val (.int rs), .val (.long dy), .second, .val (.int yd), .val (.int pl), .val (.int (tA pl rs)), .val (.long (powF N)), .second, .val (.long (powF N)), .second, .val (.long (1 : Int64)), .second, .val (.long (perF ru dy (powF N))), .second, .val (.long (divF yd (1 : Int64))), .second, .val (.long ((perF ru dy (powF N)) / (divF yd (1 : Int64)))), .second, .val (.long ((perF ru dy (powF N)) % (divF yd (1 : Int64)))), .second, .val (.long (cc * ((perF ru dy (powF N)) / (divF yd (1 : Int64))))), .second, .val (.long ((cc * ((perF ru dy (powF N)) % (divF yd (1 : Int64)))) / (divF yd (1 : Int64)))), .second, .val (.long (remF cc ((perF ru dy (powF N)) % (divF yd (1 : Int64))) (divF yd (1 : Int64)))), .second, .unset, .unset] [(.long (0 : Int64))])) _
    refine XS.lstore X23.here hx rfl (hb hby d3_203) rfl (l' := #[.val (.long cc), .second, .val (.long ru), .second, .val (.int rs), .val (.long dy), .second, .val (.int yd), .val (.int pl), .val (.int (tA pl rs)), .val (.long (powF N)), .second, .val (.long (powF N)), .second, .val (.long (1 : Int64)), .second, .val (.long (perF ru dy (powF N))), .second, .val (.long (divF yd (1 : Int64))), .second, .val (.long ((perF ru dy (powF N)) / (divF yd (1 : Int64)))), .second, .val (.long ((perF ru dy (powF N)) % (divF yd (1 : Int64)))), .second, .val (.long (cc * ((perF ru dy (powF N)) / (divF yd (1 : Int64))))), .second, .val (.long ((cc * ((perF ru dy (powF N)) % (divF yd (1 : Int64)))) / (divF yd (1 : Int64)))), .second, .val (.long (remF cc ((perF ru dy (powF N)) % (divF yd (1 : Int64))) (divF yd (1 : Int64)))), .second, .val (.long (0 : Int64)), .second]) rfl ?_
    refine XS.lload X23.here hx rfl (hb hby d3_205) rfl ?_
    refine XS.lload X23.here hx rfl (hb hby d3_207) rfl ?_
    show Steps p.tables e below (T23.setTop (mkF m 209 #[.val (.long cc), .second, .val (.long ru), .second, .val (.int rs), .val (.long dy), .second, .val (.int yd), .val (.int pl), .val (.int (tA pl rs)), .val (.long (powF N)), .second, .val (.long (powF N)), .second, .val (.long (1 : Int64)), .second, .val (.long (perF ru dy (powF N))), .second, .val (.long (divF yd (1 : Int64))), .second, .val (.long ((perF ru dy (powF N)) / (divF yd (1 : Int64)))), .second, .val (.long ((perF ru dy (powF N)) % (divF yd (1 : Int64)))), .second, .val (.long (cc * ((perF ru dy (powF N)) / (divF yd (1 : Int64))))), .second, .val (.long ((cc * ((perF ru dy (powF N)) % (divF yd (1 : Int64)))) / (divF yd (1 : Int64)))), .second, .val (.long (remF cc ((perF ru dy (powF N)) % (divF yd (1 : Int64))) (divF yd (1 : Int64)))), .second, .val (.long (0 : Int64)), .second] [(.long ((cc * ((perF ru dy (powF N)) % (divF yd (1 : Int64)))) / (divF yd (1 : Int64)))), (.long (cc * ((perF ru dy (powF N)) / (divF yd (1 : Int64)))))])) _
    refine st24 _ ?_
    refine XS.ifNo X24.here hx rfl (hb hby d3_212) rfl ((if0 _ _).trans (feq hc212).1) ?_
    refine XS.lload X24.here hx rfl (hb hby d3_215) rfl ?_
    refine XS.lload X24.here hx rfl (hb hby d3_217) rfl ?_
    refine XS.ladd X24.here hx rfl (hb hby d3_219) rfl ?_
    refine XS.lload X24.here hx rfl (hb hby d3_220) rfl ?_
    show Steps p.tables e below (T24.setTop (mkF m 222 #[.val (.long cc), .second, .val (.long ru), .second, .val (.int rs), .val (.long dy), .second, .val (.int yd), .val (.int pl), .val (.int (tA pl rs)), .val (.long (powF N)), .second, .val (.long (powF N)), .second, .val (.long (1 : Int64)), .second, .val (.long (perF ru dy (powF N))), .second, .val (.long (divF yd (1 : Int64))), .second, .val (.long ((perF ru dy (powF N)) / (divF yd (1 : Int64)))), .second, .val (.long ((perF ru dy (powF N)) % (divF yd (1 : Int64)))), .second, .val (.long (cc * ((perF ru dy (powF N)) / (divF yd (1 : Int64))))), .second, .val (.long ((cc * ((perF ru dy (powF N)) % (divF yd (1 : Int64)))) / (divF yd (1 : Int64)))), .second, .val (.long (remF cc ((perF ru dy (powF N)) % (divF yd (1 : Int64))) (divF yd (1 : Int64)))), .second, .val (.long (0 : Int64)), .second] [(.long (0 : Int64)), (.long ((cc * ((perF ru dy (powF N)) / (divF yd (1 : Int64)))) + ((cc * ((perF ru dy (powF N)) % (divF yd (1 : Int64)))) / (divF yd (1 : Int64)))))])) _
    refine st25 _ ?_
    refine XS.ifYes X25.here hx rfl (pc0 := 225) (pc' := 232) rfl (hb hby d3_225) rfl ((if0 _ _).trans (feq hc225).2) (by decide) (by decide) ?_
    refine XS.lload X25.here hx rfl (hb hby d3_232) rfl ?_
    refine XS.lload X25.here hx rfl (hb hby d3_234) rfl ?_
    refine XS.ladd X25.here hx rfl (hb hby d3_236) rfl ?_
    refine XS.lload X25.here hx rfl (hb hby d3_237) rfl ?_
    refine XS.ladd X25.here hx rfl (hb hby d3_239) rfl ?_
    show Steps p.tables e below (T25.setTop (mkF m 240 #[.val (.long cc), .second, .val (.long ru), .second, .val (.int rs), .val (.long dy), .second, .val (.int yd), .val (.int pl), .val (.int (tA pl rs)), .val (.long (powF N)), .second, .val (.long (powF N)), .second, .val (.long (1 : Int64)), .second, .val (.long (perF ru dy (powF N))), .second, .val (.long (divF yd (1 : Int64))), .second, .val (.long ((perF ru dy (powF N)) / (divF yd (1 : Int64)))), .second, .val (.long ((perF ru dy (powF N)) % (divF yd (1 : Int64)))), .second, .val (.long (cc * ((perF ru dy (powF N)) / (divF yd (1 : Int64))))), .second, .val (.long ((cc * ((perF ru dy (powF N)) % (divF yd (1 : Int64)))) / (divF yd (1 : Int64)))), .second, .val (.long (remF cc ((perF ru dy (powF N)) % (divF yd (1 : Int64))) (divF yd (1 : Int64)))), .second, .val (.long (0 : Int64)), .second] [(.long (sum3 (cc * ((perF ru dy (powF N)) / (divF yd (1 : Int64)))) ((cc * ((perF ru dy (powF N)) % (divF yd (1 : Int64)))) / (divF yd (1 : Int64))) (0 : Int64)))])) _
    jvm_step X25.here [X25.here.top, hx, (hb hby d3_240), X25.method', Bd.returns, narrow]
    first | (intro acts; rw [hr _ acts rfl rfl rfl]) | rw [hr _ _ rfl rfl rfl]
    exact Steps.refl _
  · show QJ (sum3 (cc * ((perF ru dy (powF N)) / (divF yd (1 : Int64)))) ((cc * ((perF ru dy (powF N)) % (divF yd (1 : Int64)))) / (divF yd (1 : Int64))) (0 : Int64)) h0 n0 _ T25.heap _
    rw [e25]
    exact ⟨rfl, N25, rfl⟩
set_option maxRecDepth 65536 in
set_option maxHeartbeats 40000000 in
theorem rm3_P1 (l : Launch) (Z : State) (a0 : Array Value) (hw : ∀ d ∈ tables_1, d.before a0 Z = true) (ws : List Jvm.Cond) (cc : Int64) (ru : Int64) (rs : Int32) (dy : Int64) (yd : Int32) (pl : Int32) (N : Nat) (h0 : Heap) (n0 : Nat) (Z0 : n0 ≤ h0.size) (hN : absI (tA pl rs) = Int32.ofNat N) (hN1 : N < 100) (hc18 : ¬ ((18 : Int32) < (absI (tA pl rs)))) (hc37 : (0 : Int32) < (tA pl rs)) (hc50 : (0 : Int32) < (tA pl rs)) (hc67 : ¬ ((proF ru dy) = (0 : Int32))) (hc79 : ¬ ((proF (ru * dy) (powF N)) = (0 : Int32))) (hc90 : ¬ ((proF (yd.toInt64) (1 : Int64)) = (0 : Int32))) (hnz118 : ¬ ((divF yd (1 : Int64)) = (0 : Int64))) (hnz125 : ¬ ((divF yd (1 : Int64)) = (0 : Int64))) (hc134 : ¬ ((proF cc ((perF ru dy (powF N)) / (divF yd (1 : Int64)))) = (0 : Int32))) (hc143 : ¬ ((proF cc ((perF ru dy (powF N)) % (divF yd (1 : Int64)))) = (0 : Int32))) (hnz162 : ¬ ((divF yd (1 : Int64)) = (0 : Int64))) (hnz171 : ¬ ((divF yd (1 : Int64)) = (0 : Int64))) (hc185 : ¬ ((lcmpW (remF cc ((perF ru dy (powF N)) % (divF yd (1 : Int64))) (divF yd (1 : Int64))) ((divF yd (1 : Int64)) - (remF cc ((perF ru dy (powF N)) % (divF yd (1 : Int64))) (divF yd (1 : Int64))))) < (0 : Int32))) (hc212 : ¬ ((sumF (cc * ((perF ru dy (powF N)) / (divF yd (1 : Int64)))) ((cc * ((perF ru dy (powF N)) % (divF yd (1 : Int64)))) / (divF yd (1 : Int64)))) = (0 : Int32))) (hc225 : ¬ ((sumF ((cc * ((perF ru dy (powF N)) / (divF yd (1 : Int64)))) + ((cc * ((perF ru dy (powF N)) % (divF yd (1 : Int64)))) / (divF yd (1 : Int64)))) (rupF cc (perF ru dy (powF N)))) = (0 : Int32))) :
    MetFree l (⟨"com/example/syndicata/syndicata/Accrual", "accruedUnits", "(JJIJII)J"⟩ : MethodName) (head1 (Jvm.Cond.code (⟨"com/example/syndicata/syndicata/Accrual", "accruedUnits", "(JJIJII)J"⟩ : MethodName) prog_1_method_9_code 32 (some .long) :: ws) ({ frames := 2, cells := 0, slots := 0, locals := 46 } : Room)) (fun aa U => aa = #[(.long cc), (.long ru), (.int rs), (.long dy), (.int yd), (.int pl)] ∧ Z.Warmed39 U.vm ∧ U.heap = h0) (fun _ _ _ _ _ => True) (fun _ U o U' => ∃ v L, o = .returned v ∧ QJ (sum3 (cc * ((perF ru dy (powF N)) / (divF yd (1 : Int64)))) ((cc * ((perF ru dy (powF N)) % (divF yd (1 : Int64)))) / (divF yd (1 : Int64))) (rupF cc (perF ru dy (powF N)))) h0 n0 v U'.heap L ∧ FrameEnd U o U' L ({ frames := 2, cells := 0, slots := 0, locals := 46 } : Room).cells ({ frames := 2, cells := 0, slots := 0, locals := 46 } : Room).slots) := by
  refine MetFree.of_bodySF (plainFor_of_name pn_3) hisR ?_
  intro p e s m args below meth c s₁ Bd hml0 hP hK
  obtain ⟨rfl, hZ, hh⟩ := hP
  have hx := Bd.exec
  have hby := Bd.bytes
  have hml : c.maxLocals = 32 := hml0
  have hown : s.vm.findClass "com/example/syndicata/syndicata/Accrual" = some m.cls := findClass_of_methodNamed Bd.named
  have hnm := (name_of_methodNamed Bd.named Bd.method).1
  have X0 : Stand p l e ({ frames := 2, cells := 0, slots := 0, locals := 46 } : Room) s m #[(.long cc), (.long ru), (.int rs), (.long dy), (.int yd), (.int pl)] below meth c s₁ [] 0 0 := Stand.of_body Bd
  have e0 : s₁.heap = h0 := by rw [← hh, Bd.state]; rfl
  have N0 := Fr.nil n0
  have pre0 : ∀ zz, Steps p.tables e below (s₁.setTop (mkF m 0 #[.val (.long cc), .second, .val (.long ru), .second, .val (.int rs), .val (.long dy), .second, .val (.int yd), .val (.int pl), .unset, .unset, .unset, .unset, .unset, .unset, .unset, .unset, .unset, .unset, .unset, .unset, .unset, .unset, .unset, .unset, .unset, .unset, .unset, .unset, .unset, .unset, .unset] [])) zz → Steps p.tables e below (s₁.setTop (entryFrame m #[(.long cc), (.long ru), (.int rs), (.long dy), (.int yd), (.int pl)] 32)) zz := fun zz k => castTop (ef_3 m cc ru rs dy yd pl) k
  obtain ⟨_, _, ⟨T26, L26, k26, n26⟩, -, X26, ⟨Lc26, hQ26, l26, y26, z26⟩, st26⟩ := Jvm.LawKit.callS X0 hx (y := (⟨"java/lang/Math", "abs", "(I)I"⟩ : MethodName)) hown (mvT hZ (hw _ (List.mem_of_getElem? (i := 32) rfl))) (mvT hZ (hw _ (List.mem_of_getElem? (i := 33) rfl))) (mvT hZ (hw _ (List.mem_of_getElem? (i := 23) rfl))) (mvT hZ (hw _ (List.mem_of_getElem? (i := 34) rfl))) (by decide) (backOf (W := 0) (rm4 l Z a0 hw [] (tA pl rs) h0 n0 Z0) hZ (hw _ (List.mem_of_getElem? (i := 34) rfl)) (hw _ (List.mem_of_getElem? (i := 23) rfl)) (by decide) (by decide)) (g := (mkF m 13 #[.val (.long cc), .second, .val (.long ru), .second, .val (.int rs), .val (.long dy), .second, .val (.int yd), .val (.int pl), .val (.int (tA pl rs)), .unset, .unset, .unset, .unset, .unset, .unset, .unset, .unset, .unset, .unset, .unset, .unset, .unset, .unset, .unset, .unset, .unset, .unset, .unset, .unset, .unset, .unset] [(.int (tA pl rs))])) rfl (by rw [hml]; rfl) (argsL := [(.int (tA pl rs))]) (rest := []) (lenOf pd_3 rfl) rfl (by show 2 * 0 + _ ≤ _; exact Nat.le_of_eq rfl) (hb hby d3_13) (fun _ _ => ⟨rfl, e0, (by decide : 0 + 0 ≤ _), (by decide : 0 + 0 ≤ _)⟩)
  dsimp only [Pt.U, Pt.locs, Pt.cells, Pt.slots] at X26 l26 y26 z26 st26 hQ26
  subst l26 y26 z26
  obtain ⟨rfl, N26q, e26⟩ := hQ26
  have N26 := Fr.app N0 N26q
  obtain ⟨_, _, ⟨T27, L27, k27, n27⟩, -, X27, ⟨Lc27, hQ27, l27, y27, z27⟩, st27⟩ := Jvm.LawKit.callS X26 hx (y := (⟨"java/lang/Math", "abs", "(I)I"⟩ : MethodName)) hown (mvT hZ (hw _ (List.mem_of_getElem? (i := 32) rfl))) (mvT hZ (hw _ (List.mem_of_getElem? (i := 33) rfl))) (mvT hZ (hw _ (List.mem_of_getElem? (i := 23) rfl))) (mvT hZ (hw _ (List.mem_of_getElem? (i := 34) rfl))) (by decide) (backOf (W := 0) (rm4 l Z a0 hw [] (tA pl rs) h0 n0 Z0) hZ (hw _ (List.mem_of_getElem? (i := 34) rfl)) (hw _ (List.mem_of_getElem? (i := 23) rfl)) (by decide) (by decide)) (g := (mkF m 27 #[.val (.long cc), .second, .val (.long ru), .second, .val (.int rs), .val (.long dy), .second, .val (.int yd), .val (.int pl), .val (.int (tA pl rs)), .unset, .unset, .unset, .unset, .unset, .unset, .unset, .unset, .unset, .unset, .unset, .unset, .unset, .unset, .unset, .unset, .unset, .unset, .unset, .unset, .unset, .unset] [(.int (tA pl rs))])) rfl (by rw [hml]; rfl) (argsL := [(.int (tA pl rs))]) (rest := []) (lenOf pd_3 rfl) rfl (by show 2 * 0 + _ ≤ _; exact Nat.le_of_eq rfl) (hb hby d3_27) (fun _ _ => ⟨rfl, e26, (by decide : 0 + 0 ≤ _), (by decide : 0 + 0 ≤ _)⟩)
  dsimp only [Pt.U, Pt.locs, Pt.cells, Pt.slots] at X27 l27 y27 z27 st27 hQ27
  subst l27 y27 z27
  obtain ⟨rfl, N27q, e27⟩ := hQ27
  have N27 := Fr.app N26 N27q
  rw [hN] at st27
  obtain ⟨_, _, ⟨T28, L28, k28, n28⟩, -, X28, ⟨Lc28, hQ28, l28, y28, z28⟩, st28⟩ := Jvm.LawKit.callS X27 hx (y := (⟨"com/example/syndicata/syndicata/Accrual", "powerOfTen", "(I)J"⟩ : MethodName)) hown (mvT hZ (hw _ (List.mem_of_getElem? (i := 35) rfl))) (mvT hZ (hw _ (List.mem_of_getElem? (i := 36) rfl))) (mvT hZ (hw _ (List.mem_of_getElem? (i := 30) rfl))) (mvT hZ (hw _ (List.mem_of_getElem? (i := 37) rfl))) (by decide) (backOf (W := 0) (rm5 l Z a0 hw [] N h0 n0 Z0 hN1) hZ (hw _ (List.mem_of_getElem? (i := 37) rfl)) (hw _ (List.mem_of_getElem? (i := 30) rfl)) (by decide) (by decide)) (g := (mkF m 30 #[.val (.long cc), .second, .val (.long ru), .second, .val (.int rs), .val (.long dy), .second, .val (.int yd), .val (.int pl), .val (.int (tA pl rs)), .unset, .unset, .unset, .unset, .unset, .unset, .unset, .unset, .unset, .unset, .unset, .unset, .unset, .unset, .unset, .unset, .unset, .unset, .unset, .unset, .unset, .unset] [(.int (Int32.ofNat N))])) rfl (by rw [hml]; rfl) (argsL := [(.int (Int32.ofNat N))]) (rest := []) (lenOf pd_4 rfl) rfl (by show 2 * 0 + _ ≤ _; exact Nat.le_of_eq rfl) (hb hby d3_30) (fun _ _ => ⟨rfl, e27, (by decide : 0 + 0 ≤ _), (by decide : 0 + 0 ≤ _)⟩)
  dsimp only [Pt.U, Pt.locs, Pt.cells, Pt.slots] at X28 l28 y28 z28 st28 hQ28
  subst l28 y28 z28
  obtain ⟨rfl, N28q, e28⟩ := hQ28
  have N28 := Fr.app N27 N28q
  obtain ⟨_, _, ⟨T29, L29, k29, n29⟩, -, X29, ⟨Lc29, hQ29, l29, y29, z29⟩, st29⟩ := Jvm.LawKit.callS X28 hx (y := (⟨"com/example/syndicata/syndicata/Accrual", "productFits", "(JJ)Z"⟩ : MethodName)) hown (mvT hZ (hw _ (List.mem_of_getElem? (i := 39) rfl))) (mvT hZ (hw _ (List.mem_of_getElem? (i := 40) rfl))) (mvT hZ (hw _ (List.mem_of_getElem? (i := 30) rfl))) (mvT hZ (hw _ (List.mem_of_getElem? (i := 41) rfl))) (by decide) (backOf (W := 0) (rm6 l Z a0 hw [] ru dy h0 n0 Z0) hZ (hw _ (List.mem_of_getElem? (i := 41) rfl)) (hw _ (List.mem_of_getElem? (i := 30) rfl)) (by decide) (by decide)) (g := (mkF m 64 #[.val (.long cc), .second, .val (.long ru), .second, .val (.int rs), .val (.long dy), .second, .val (.int yd), .val (.int pl), .val (.int (tA pl rs)), .val (.long (powF N)), .second, .val (.long (powF N)), .second, .val (.long (1 : Int64)), .second, .unset, .unset, .unset, .unset, .unset, .unset, .unset, .unset, .unset, .unset, .unset, .unset, .unset, .unset, .unset, .unset] [(.long dy), (.long ru)])) rfl (by rw [hml]; rfl) (argsL := [(.long ru), (.long dy)]) (rest := []) (lenOf pd_5 rfl) rfl (by show 2 * 0 + _ ≤ _; exact Nat.le_of_eq rfl) (hb hby d3_64) (fun _ _ => ⟨rfl, e28, (by decide : 0 + 0 ≤ _), (by decide : 0 + 0 ≤ _)⟩)
  dsimp only [Pt.U, Pt.locs, Pt.cells, Pt.slots] at X29 l29 y29 z29 st29 hQ29
  subst l29 y29 z29
  obtain ⟨rfl, N29q, e29⟩ := hQ29
  have N29 := Fr.app N28 N29q
  obtain ⟨_, _, ⟨T30, L30, k30, n30⟩, -, X30, ⟨Lc30, hQ30, l30, y30, z30⟩, st30⟩ := Jvm.LawKit.callS X29 hx (y := (⟨"com/example/syndicata/syndicata/Accrual", "productFits", "(JJ)Z"⟩ : MethodName)) hown (mvT hZ (hw _ (List.mem_of_getElem? (i := 39) rfl))) (mvT hZ (hw _ (List.mem_of_getElem? (i := 40) rfl))) (mvT hZ (hw _ (List.mem_of_getElem? (i := 30) rfl))) (mvT hZ (hw _ (List.mem_of_getElem? (i := 41) rfl))) (by decide) (backOf (W := 0) (rm6 l Z a0 hw [] (ru * dy) (powF N) h0 n0 Z0) hZ (hw _ (List.mem_of_getElem? (i := 41) rfl)) (hw _ (List.mem_of_getElem? (i := 30) rfl)) (by decide) (by decide)) (g := (mkF m 76 #[.val (.long cc), .second, .val (.long ru), .second, .val (.int rs), .val (.long dy), .second, .val (.int yd), .val (.int pl), .val (.int (tA pl rs)), .val (.long (powF N)), .second, .val (.long (powF N)), .second, .val (.long (1 : Int64)), .second, .unset, .unset, .unset, .unset, .unset, .unset, .unset, .unset, .unset, .unset, .unset, .unset, .unset, .unset, .unset, .unset] [(.long (powF N)), (.long (ru * dy))])) rfl (by rw [hml]; rfl) (argsL := [(.long (ru * dy)), (.long (powF N))]) (rest := []) (lenOf pd_5 rfl) rfl (by show 2 * 0 + _ ≤ _; exact Nat.le_of_eq rfl) (hb hby d3_76) (fun _ _ => ⟨rfl, e29, (by decide : 0 + 0 ≤ _), (by decide : 0 + 0 ≤ _)⟩)
  dsimp only [Pt.U, Pt.locs, Pt.cells, Pt.slots] at X30 l30 y30 z30 st30 hQ30
  subst l30 y30 z30
  obtain ⟨rfl, N30q, e30⟩ := hQ30
  have N30 := Fr.app N29 N30q
  obtain ⟨_, _, ⟨T31, L31, k31, n31⟩, -, X31, ⟨Lc31, hQ31, l31, y31, z31⟩, st31⟩ := Jvm.LawKit.callS X30 hx (y := (⟨"com/example/syndicata/syndicata/Accrual", "productFits", "(JJ)Z"⟩ : MethodName)) hown (mvT hZ (hw _ (List.mem_of_getElem? (i := 39) rfl))) (mvT hZ (hw _ (List.mem_of_getElem? (i := 40) rfl))) (mvT hZ (hw _ (List.mem_of_getElem? (i := 30) rfl))) (mvT hZ (hw _ (List.mem_of_getElem? (i := 41) rfl))) (by decide) (backOf (W := 0) (rm6 l Z a0 hw [] (yd.toInt64) (1 : Int64) h0 n0 Z0) hZ (hw _ (List.mem_of_getElem? (i := 41) rfl)) (hw _ (List.mem_of_getElem? (i := 30) rfl)) (by decide) (by decide)) (g := (mkF m 87 #[.val (.long cc), .second, .val (.long ru), .second, .val (.int rs), .val (.long dy), .second, .val (.int yd), .val (.int pl), .val (.int (tA pl rs)), .val (.long (powF N)), .second, .val (.long (powF N)), .second, .val (.long (1 : Int64)), .second, .unset, .unset, .unset, .unset, .unset, .unset, .unset, .unset, .unset, .unset, .unset, .unset, .unset, .unset, .unset, .unset] [(.long (1 : Int64)), (.long (yd.toInt64))])) rfl (by rw [hml]; rfl) (argsL := [(.long (yd.toInt64)), (.long (1 : Int64))]) (rest := []) (lenOf pd_5 rfl) rfl (by show 2 * 0 + _ ≤ _; exact Nat.le_of_eq rfl) (hb hby d3_87) (fun _ _ => ⟨rfl, e30, (by decide : 0 + 0 ≤ _), (by decide : 0 + 0 ≤ _)⟩)
  dsimp only [Pt.U, Pt.locs, Pt.cells, Pt.slots] at X31 l31 y31 z31 st31 hQ31
  subst l31 y31 z31
  obtain ⟨rfl, N31q, e31⟩ := hQ31
  have N31 := Fr.app N30 N31q
  obtain ⟨_, _, ⟨T32, L32, k32, n32⟩, -, X32, ⟨Lc32, hQ32, l32, y32, z32⟩, st32⟩ := Jvm.LawKit.callS X31 hx (y := (⟨"com/example/syndicata/syndicata/Accrual", "productFits", "(JJ)Z"⟩ : MethodName)) hown (mvT hZ (hw _ (List.mem_of_getElem? (i := 39) rfl))) (mvT hZ (hw _ (List.mem_of_getElem? (i := 40) rfl))) (mvT hZ (hw _ (List.mem_of_getElem? (i := 30) rfl))) (mvT hZ (hw _ (List.mem_of_getElem? (i := 41) rfl))) (by decide) (backOf (W := 0) (rm6 l Z a0 hw [] cc ((perF ru dy (powF N)) / (divF yd (1 : Int64))) h0 n0 Z0) hZ (hw _ (List.mem_of_getElem? (i := 41) rfl)) (hw _ (List.mem_of_getElem? (i := 30) rfl)) (by decide) (by decide)) (g := (mkF m 131 #[.val (.long cc), .second, .val (.long ru), .second, .val (.int rs), .val (.long dy), .second, .val (.int yd), .val (.int pl), .val (.int (tA pl rs)), .val (.long (powF N)), .second, .val (.long (powF N)), .second, .val (.long (1 : Int64)), .second, .val (.long (perF ru dy (powF N))), .second, .val (.long (divF yd (1 : Int64))), .second, .val (.long ((perF ru dy (powF N)) / (divF yd (1 : Int64)))), .second, .val (.long ((perF ru dy (powF N)) % (divF yd (1 : Int64)))), .second, .unset, .unset, .unset, .unset, .unset, .unset, .unset, .unset] [(.long ((perF ru dy (powF N)) / (divF yd (1 : Int64)))), (.long cc)])) rfl (by rw [hml]; rfl) (argsL := [(.long cc), (.long ((perF ru dy (powF N)) / (divF yd (1 : Int64))))]) (rest := []) (lenOf pd_5 rfl) rfl (by show 2 * 0 + _ ≤ _; exact Nat.le_of_eq rfl) (hb hby d3_131) (fun _ _ => ⟨rfl, e31, (by decide : 0 + 0 ≤ _), (by decide : 0 + 0 ≤ _)⟩)
  dsimp only [Pt.U, Pt.locs, Pt.cells, Pt.slots] at X32 l32 y32 z32 st32 hQ32
  subst l32 y32 z32
  obtain ⟨rfl, N32q, e32⟩ := hQ32
  have N32 := Fr.app N31 N32q
  obtain ⟨_, _, ⟨T33, L33, k33, n33⟩, -, X33, ⟨Lc33, hQ33, l33, y33, z33⟩, st33⟩ := Jvm.LawKit.callS X32 hx (y := (⟨"com/example/syndicata/syndicata/Accrual", "productFits", "(JJ)Z"⟩ : MethodName)) hown (mvT hZ (hw _ (List.mem_of_getElem? (i := 39) rfl))) (mvT hZ (hw _ (List.mem_of_getElem? (i := 40) rfl))) (mvT hZ (hw _ (List.mem_of_getElem? (i := 30) rfl))) (mvT hZ (hw _ (List.mem_of_getElem? (i := 41) rfl))) (by decide) (backOf (W := 0) (rm6 l Z a0 hw [] cc ((perF ru dy (powF N)) % (divF yd (1 : Int64))) h0 n0 Z0) hZ (hw _ (List.mem_of_getElem? (i := 41) rfl)) (hw _ (List.mem_of_getElem? (i := 30) rfl)) (by decide) (by decide)) (g := (mkF m 140 #[.val (.long cc), .second, .val (.long ru), .second, .val (.int rs), .val (.long dy), .second, .val (.int yd), .val (.int pl), .val (.int (tA pl rs)), .val (.long (powF N)), .second, .val (.long (powF N)), .second, .val (.long (1 : Int64)), .second, .val (.long (perF ru dy (powF N))), .second, .val (.long (divF yd (1 : Int64))), .second, .val (.long ((perF ru dy (powF N)) / (divF yd (1 : Int64)))), .second, .val (.long ((perF ru dy (powF N)) % (divF yd (1 : Int64)))), .second, .unset, .unset, .unset, .unset, .unset, .unset, .unset, .unset] [(.long ((perF ru dy (powF N)) % (divF yd (1 : Int64)))), (.long cc)])) rfl (by rw [hml]; rfl) (argsL := [(.long cc), (.long ((perF ru dy (powF N)) % (divF yd (1 : Int64))))]) (rest := []) (lenOf pd_5 rfl) rfl (by show 2 * 0 + _ ≤ _; exact Nat.le_of_eq rfl) (hb hby d3_140) (fun _ _ => ⟨rfl, e32, (by decide : 0 + 0 ≤ _), (by decide : 0 + 0 ≤ _)⟩)
  dsimp only [Pt.U, Pt.locs, Pt.cells, Pt.slots] at X33 l33 y33 z33 st33 hQ33
  subst l33 y33 z33
  obtain ⟨rfl, N33q, e33⟩ := hQ33
  have N33 := Fr.app N32 N33q
  obtain ⟨_, _, ⟨T34, L34, k34, n34⟩, -, X34, ⟨Lc34, hQ34, l34, y34, z34⟩, st34⟩ := Jvm.LawKit.callS X33 hx (y := (⟨"java/lang/Math", "abs", "(J)J"⟩ : MethodName)) hown (mvT hZ (hw _ (List.mem_of_getElem? (i := 46) rfl))) (mvT hZ (hw _ (List.mem_of_getElem? (i := 26) rfl))) (mvT hZ (hw _ (List.mem_of_getElem? (i := 23) rfl))) (mvT hZ (hw _ (List.mem_of_getElem? (i := 27) rfl))) (by decide) (backOf (W := 0) (rm2 l Z a0 hw [] ((cc * ((perF ru dy (powF N)) % (divF yd (1 : Int64)))) % (divF yd (1 : Int64))) h0 n0 Z0) hZ (hw _ (List.mem_of_getElem? (i := 27) rfl)) (hw _ (List.mem_of_getElem? (i := 23) rfl)) (by decide) (by decide)) (g := (mkF m 172 #[.val (.long cc), .second, .val (.long ru), .second, .val (.int rs), .val (.long dy), .second, .val (.int yd), .val (.int pl), .val (.int (tA pl rs)), .val (.long (powF N)), .second, .val (.long (powF N)), .second, .val (.long (1 : Int64)), .second, .val (.long (perF ru dy (powF N))), .second, .val (.long (divF yd (1 : Int64))), .second, .val (.long ((perF ru dy (powF N)) / (divF yd (1 : Int64)))), .second, .val (.long ((perF ru dy (powF N)) % (divF yd (1 : Int64)))), .second, .val (.long (cc * ((perF ru dy (powF N)) / (divF yd (1 : Int64))))), .second, .val (.long ((cc * ((perF ru dy (powF N)) % (divF yd (1 : Int64)))) / (divF yd (1 : Int64)))), .second, .unset, .unset, .unset, .unset] [(.long ((cc * ((perF ru dy (powF N)) % (divF yd (1 : Int64)))) % (divF yd (1 : Int64))))])) rfl (by rw [hml]; rfl) (argsL := [(.long ((cc * ((perF ru dy (powF N)) % (divF yd (1 : Int64)))) % (divF yd (1 : Int64))))]) (rest := []) (lenOf pd_1 rfl) rfl (by show 2 * 0 + _ ≤ _; exact Nat.le_of_eq rfl) (hb hby d3_172) (fun _ _ => ⟨rfl, e33, (by decide : 0 + 0 ≤ _), (by decide : 0 + 0 ≤ _)⟩)
  dsimp only [Pt.U, Pt.locs, Pt.cells, Pt.slots] at X34 l34 y34 z34 st34 hQ34
  subst l34 y34 z34
  obtain ⟨rfl, N34q, e34⟩ := hQ34
  have N34 := Fr.app N33 N34q
  obtain ⟨_, _, ⟨T35, L35, k35, n35⟩, -, X35, ⟨Lc35, hQ35, l35, y35, z35⟩, st35⟩ := Jvm.LawKit.callS X34 hx (y := (⟨"java/lang/Long", "signum", "(J)I"⟩ : MethodName)) hown (mvT hZ (hw _ (List.mem_of_getElem? (i := 47) rfl))) (mvT hZ (hw _ (List.mem_of_getElem? (i := 48) rfl))) (mvT hZ (hw _ (List.mem_of_getElem? (i := 49) rfl))) (mvT hZ (hw _ (List.mem_of_getElem? (i := 50) rfl))) (by decide) (backOf (W := 0) (rm8 l Z a0 hw [] cc h0 n0 Z0) hZ (hw _ (List.mem_of_getElem? (i := 50) rfl)) (hw _ (List.mem_of_getElem? (i := 49) rfl)) (by decide) (by decide)) (g := (mkF m 189 #[.val (.long cc), .second, .val (.long ru), .second, .val (.int rs), .val (.long dy), .second, .val (.int yd), .val (.int pl), .val (.int (tA pl rs)), .val (.long (powF N)), .second, .val (.long (powF N)), .second, .val (.long (1 : Int64)), .second, .val (.long (perF ru dy (powF N))), .second, .val (.long (divF yd (1 : Int64))), .second, .val (.long ((perF ru dy (powF N)) / (divF yd (1 : Int64)))), .second, .val (.long ((perF ru dy (powF N)) % (divF yd (1 : Int64)))), .second, .val (.long (cc * ((perF ru dy (powF N)) / (divF yd (1 : Int64))))), .second, .val (.long ((cc * ((perF ru dy (powF N)) % (divF yd (1 : Int64)))) / (divF yd (1 : Int64)))), .second, .val (.long (remF cc ((perF ru dy (powF N)) % (divF yd (1 : Int64))) (divF yd (1 : Int64)))), .second, .unset, .unset] [(.long cc)])) rfl (by rw [hml]; rfl) (argsL := [(.long cc)]) (rest := []) (lenOf pd_7 rfl) rfl (by show 2 * 0 + _ ≤ _; exact Nat.le_of_eq rfl) (hb hby d3_189) (fun _ _ => ⟨rfl, e34, (by decide : 0 + 0 ≤ _), (by decide : 0 + 0 ≤ _)⟩)
  dsimp only [Pt.U, Pt.locs, Pt.cells, Pt.slots] at X35 l35 y35 z35 st35 hQ35
  subst l35 y35 z35
  obtain ⟨rfl, N35q, e35⟩ := hQ35
  have N35 := Fr.app N34 N35q
  obtain ⟨_, _, ⟨T36, L36, k36, n36⟩, -, X36, ⟨Lc36, hQ36, l36, y36, z36⟩, st36⟩ := Jvm.LawKit.callS X35 hx (y := (⟨"java/lang/Long", "signum", "(J)I"⟩ : MethodName)) hown (mvT hZ (hw _ (List.mem_of_getElem? (i := 47) rfl))) (mvT hZ (hw _ (List.mem_of_getElem? (i := 48) rfl))) (mvT hZ (hw _ (List.mem_of_getElem? (i := 49) rfl))) (mvT hZ (hw _ (List.mem_of_getElem? (i := 50) rfl))) (by decide) (backOf (W := 1) (rm8 l Z a0 hw [] (perF ru dy (powF N)) h0 n0 Z0) hZ (hw _ (List.mem_of_getElem? (i := 50) rfl)) (hw _ (List.mem_of_getElem? (i := 49) rfl)) (by decide) (by decide)) (g := (mkF m 194 #[.val (.long cc), .second, .val (.long ru), .second, .val (.int rs), .val (.long dy), .second, .val (.int yd), .val (.int pl), .val (.int (tA pl rs)), .val (.long (powF N)), .second, .val (.long (powF N)), .second, .val (.long (1 : Int64)), .second, .val (.long (perF ru dy (powF N))), .second, .val (.long (divF yd (1 : Int64))), .second, .val (.long ((perF ru dy (powF N)) / (divF yd (1 : Int64)))), .second, .val (.long ((perF ru dy (powF N)) % (divF yd (1 : Int64)))), .second, .val (.long (cc * ((perF ru dy (powF N)) / (divF yd (1 : Int64))))), .second, .val (.long ((cc * ((perF ru dy (powF N)) % (divF yd (1 : Int64)))) / (divF yd (1 : Int64)))), .second, .val (.long (remF cc ((perF ru dy (powF N)) % (divF yd (1 : Int64))) (divF yd (1 : Int64)))), .second, .unset, .unset] [(.long (perF ru dy (powF N))), (.int (sigF cc))])) rfl (by rw [hml]; rfl) (argsL := [(.long (perF ru dy (powF N)))]) (rest := [(.int (sigF cc))]) (lenOf pd_7 rfl) rfl (by show 2 * 0 + _ ≤ _; exact Nat.le_of_eq rfl) (hb hby d3_194) (fun _ _ => ⟨rfl, e35, (by decide : 0 + 0 ≤ _), (by decide : 0 + 0 ≤ _)⟩)
  dsimp only [Pt.U, Pt.locs, Pt.cells, Pt.slots] at X36 l36 y36 z36 st36 hQ36
  subst l36 y36 z36
  obtain ⟨rfl, N36q, e36⟩ := hQ36
  have N36 := Fr.app N35 N36q
  obtain ⟨_, _, ⟨T37, L37, k37, n37⟩, -, X37, ⟨Lc37, hQ37, l37, y37, z37⟩, st37⟩ := Jvm.LawKit.callS X36 hx (y := (⟨"com/example/syndicata/syndicata/Accrual", "sumFits", "(JJ)Z"⟩ : MethodName)) hown (mvT hZ (hw _ (List.mem_of_getElem? (i := 51) rfl))) (mvT hZ (hw _ (List.mem_of_getElem? (i := 52) rfl))) (mvT hZ (hw _ (List.mem_of_getElem? (i := 30) rfl))) (mvT hZ (hw _ (List.mem_of_getElem? (i := 53) rfl))) (by decide) (backOf (W := 0) (rm9 l Z a0 hw [] (cc * ((perF ru dy (powF N)) / (divF yd (1 : Int64)))) ((cc * ((perF ru dy (powF N)) % (divF yd (1 : Int64)))) / (divF yd (1 : Int64))) h0 n0 Z0) hZ (hw _ (List.mem_of_getElem? (i := 53) rfl)) (hw _ (List.mem_of_getElem? (i := 30) rfl)) (by decide) (by decide)) (g := (mkF m 209 #[.val (.long cc), .second, .val (.long ru), .second, .val (.int rs), .val (.long dy), .second, .val (.int yd), .val (.int pl), .val (.int (tA pl rs)), .val (.long (powF N)), .second, .val (.long (powF N)), .second, .val (.long (1 : Int64)), .second, .val (.long (perF ru dy (powF N))), .second, .val (.long (divF yd (1 : Int64))), .second, .val (.long ((perF ru dy (powF N)) / (divF yd (1 : Int64)))), .second, .val (.long ((perF ru dy (powF N)) % (divF yd (1 : Int64)))), .second, .val (.long (cc * ((perF ru dy (powF N)) / (divF yd (1 : Int64))))), .second, .val (.long ((cc * ((perF ru dy (powF N)) % (divF yd (1 : Int64)))) / (divF yd (1 : Int64)))), .second, .val (.long (remF cc ((perF ru dy (powF N)) % (divF yd (1 : Int64))) (divF yd (1 : Int64)))), .second, .val (.long (rupF cc (perF ru dy (powF N)))), .second] [(.long ((cc * ((perF ru dy (powF N)) % (divF yd (1 : Int64)))) / (divF yd (1 : Int64)))), (.long (cc * ((perF ru dy (powF N)) / (divF yd (1 : Int64)))))])) rfl (by rw [hml]; rfl) (argsL := [(.long (cc * ((perF ru dy (powF N)) / (divF yd (1 : Int64))))), (.long ((cc * ((perF ru dy (powF N)) % (divF yd (1 : Int64)))) / (divF yd (1 : Int64))))]) (rest := []) (lenOf pd_5 rfl) rfl (by show 2 * 0 + _ ≤ _; exact Nat.le_of_eq rfl) (hb hby d3_209) (fun _ _ => ⟨rfl, e36, (by decide : 0 + 0 ≤ _), (by decide : 0 + 0 ≤ _)⟩)
  dsimp only [Pt.U, Pt.locs, Pt.cells, Pt.slots] at X37 l37 y37 z37 st37 hQ37
  subst l37 y37 z37
  obtain ⟨rfl, N37q, e37⟩ := hQ37
  have N37 := Fr.app N36 N37q
  obtain ⟨_, _, ⟨T38, L38, k38, n38⟩, -, X38, ⟨Lc38, hQ38, l38, y38, z38⟩, st38⟩ := Jvm.LawKit.callS X37 hx (y := (⟨"com/example/syndicata/syndicata/Accrual", "sumFits", "(JJ)Z"⟩ : MethodName)) hown (mvT hZ (hw _ (List.mem_of_getElem? (i := 51) rfl))) (mvT hZ (hw _ (List.mem_of_getElem? (i := 52) rfl))) (mvT hZ (hw _ (List.mem_of_getElem? (i := 30) rfl))) (mvT hZ (hw _ (List.mem_of_getElem? (i := 53) rfl))) (by decide) (backOf (W := 0) (rm9 l Z a0 hw [] ((cc * ((perF ru dy (powF N)) / (divF yd (1 : Int64)))) + ((cc * ((perF ru dy (powF N)) % (divF yd (1 : Int64)))) / (divF yd (1 : Int64)))) (rupF cc (perF ru dy (powF N))) h0 n0 Z0) hZ (hw _ (List.mem_of_getElem? (i := 53) rfl)) (hw _ (List.mem_of_getElem? (i := 30) rfl)) (by decide) (by decide)) (g := (mkF m 222 #[.val (.long cc), .second, .val (.long ru), .second, .val (.int rs), .val (.long dy), .second, .val (.int yd), .val (.int pl), .val (.int (tA pl rs)), .val (.long (powF N)), .second, .val (.long (powF N)), .second, .val (.long (1 : Int64)), .second, .val (.long (perF ru dy (powF N))), .second, .val (.long (divF yd (1 : Int64))), .second, .val (.long ((perF ru dy (powF N)) / (divF yd (1 : Int64)))), .second, .val (.long ((perF ru dy (powF N)) % (divF yd (1 : Int64)))), .second, .val (.long (cc * ((perF ru dy (powF N)) / (divF yd (1 : Int64))))), .second, .val (.long ((cc * ((perF ru dy (powF N)) % (divF yd (1 : Int64)))) / (divF yd (1 : Int64)))), .second, .val (.long (remF cc ((perF ru dy (powF N)) % (divF yd (1 : Int64))) (divF yd (1 : Int64)))), .second, .val (.long (rupF cc (perF ru dy (powF N)))), .second] [(.long (rupF cc (perF ru dy (powF N)))), (.long ((cc * ((perF ru dy (powF N)) / (divF yd (1 : Int64)))) + ((cc * ((perF ru dy (powF N)) % (divF yd (1 : Int64)))) / (divF yd (1 : Int64)))))])) rfl (by rw [hml]; rfl) (argsL := [(.long ((cc * ((perF ru dy (powF N)) / (divF yd (1 : Int64)))) + ((cc * ((perF ru dy (powF N)) % (divF yd (1 : Int64)))) / (divF yd (1 : Int64))))), (.long (rupF cc (perF ru dy (powF N))))]) (rest := []) (lenOf pd_5 rfl) rfl (by show 2 * 0 + _ ≤ _; exact Nat.le_of_eq rfl) (hb hby d3_222) (fun _ _ => ⟨rfl, e37, (by decide : 0 + 0 ≤ _), (by decide : 0 + 0 ≤ _)⟩)
  dsimp only [Pt.U, Pt.locs, Pt.cells, Pt.slots] at X38 l38 y38 z38 st38 hQ38
  subst l38 y38 z38
  obtain ⟨rfl, N38q, e38⟩ := hQ38
  have N38 := Fr.app N37 N38q
  obtain ⟨fs, hr, hrun, hended, hW, hsame⟩ := X38.leave (v := some (.long (sum3 (cc * ((perF ru dy (powF N)) / (divF yd (1 : Int64)))) ((cc * ((perF ru dy (powF N)) % (divF yd (1 : Int64)))) / (divF yd (1 : Int64))) (rupF cc (perF ru dy (powF N)))))) (fun h => by rw [Bd.returns] at h; cases h)
  refine ⟨_, _, pre0 _ ?_, hrun, hended, _, _, rfl, ?_, ⟨_, rfl⟩, hW, hsame.mono (by decide) (by decide)⟩
  · show Steps p.tables e below (s₁.setTop (mkF m 0 #[.val (.long cc), .second, .val (.long ru), .second, .val (.int rs), .val (.long dy), .second, .val (.int yd), .val (.int pl), .unset, .unset, .unset, .unset, .unset, .unset, .unset, .unset, .unset, .unset, .unset, .unset, .unset, .unset, .unset, .unset, .unset, .unset, .unset, .unset, .unset, .unset, .unset] [])) _
    refine XS.iload X0.here hx rfl (hb hby d3_0) rfl ?_
    refine XS.iconst X0.here hx rfl (hb hby d3_2) ?_
    refine XS.isub X0.here hx rfl (hb hby d3_3) rfl ?_
    refine XS.iload X0.here hx rfl (hb hby d3_4) rfl ?_
    refine XS.isub X0.here hx rfl (hb hby d3_6) rfl ?_
    refine XS.iconst X0.here hx rfl (hb hby d3_7) ?_
    refine XS.isub X0.here hx rfl (hb hby d3_8) rfl ?_
    show Steps p.tables e below (s₁.setTop (mkF m 9 #[.val (.long cc), .second, .val (.long ru), .second, .val (.int rs), .val (.long dy), .second, .val (.int yd), .val (.int pl), .unset, .unset, .unset, .unset, .unset, .unset, .unset, .unset, .unset, .unset, .unset, .unset, .unset, .unset, .unset, .unset, .unset, .unset, .unset, .unset, .unset, .unset, .unset] [(.int (tA pl rs))])) _
    refine XS.istore X0.here hx rfl (hb hby d3_9) rfl (l' := #[.val (.long cc), .second, .val (.long ru), .second, .val (.int rs), .val (.long dy), .second, .val (.int yd), .val (.int pl), .val (.int (tA pl rs)), .unset, .unset, .unset, .unset, .unset, .unset, .unset, .unset, .unset, .unset, .unset, .unset, .unset, .unset, .unset, .unset, .unset, .unset, .unset, .unset, .unset, .unset]) rfl ?_
    refine XS.iload X0.here hx rfl (hb hby d3_11) rfl ?_
    show Steps p.tables e below (s₁.setTop (mkF m 13 #[.val (.long cc), .second, .val (.long ru), .second, .val (.int rs), .val (.long dy), .second, .val (.int yd), .val (.int pl), .val (.int (tA pl rs)), .unset, .unset, .unset, .unset, .unset, .unset, .unset, .unset, .unset, .unset, .unset, .unset, .unset, .unset, .unset, .unset, .unset, .unset, .unset, .unset, .unset, .unset] [(.int (tA pl rs))])) _
    refine st26 _ ?_
    refine XS.bipush X26.here hx rfl (hb hby d3_16) ?_
    refine XS.icmpYes X26.here hx rfl (pc0 := 18) (pc' := 25) rfl (hb hby d3_18) rfl (flt hc18).2.2.2 (by decide) (by decide) ?_
    refine XS.iload X26.here hx rfl (hb hby d3_25) rfl ?_
    show Steps p.tables e below (T26.setTop (mkF m 27 #[.val (.long cc), .second, .val (.long ru), .second, .val (.int rs), .val (.long dy), .second, .val (.int yd), .val (.int pl), .val (.int (tA pl rs)), .unset, .unset, .unset, .unset, .unset, .unset, .unset, .unset, .unset, .unset, .unset, .unset, .unset, .unset, .unset, .unset, .unset, .unset, .unset, .unset, .unset, .unset] [(.int (tA pl rs))])) _
    refine st27 _ ?_
    show Steps p.tables e below (T27.setTop (mkF m 30 #[.val (.long cc), .second, .val (.long ru), .second, .val (.int rs), .val (.long dy), .second, .val (.int yd), .val (.int pl), .val (.int (tA pl rs)), .unset, .unset, .unset, .unset, .unset, .unset, .unset, .unset, .unset, .unset, .unset, .unset, .unset, .unset, .unset, .unset, .unset, .unset, .unset, .unset, .unset, .unset] [(.int (Int32.ofNat N))])) _
    refine st28 _ ?_
    refine XS.lstore X28.here hx rfl (hb hby d3_33) rfl (l' := #[.val (.long cc), .second, .val (.long ru), .second, .val (.int rs), .val (.long dy), .second, .val (.int yd), .val (.int pl), .val (.int (tA pl rs)), .val (.long (powF N)), .second, .unset, .unset, .unset, .unset, .unset, .unset, .unset, .unset, .unset, .unset, .unset, .unset, .unset, .unset, .unset, .unset, .unset, .unset, .unset, .unset]) rfl ?_
    refine XS.iload X28.here hx rfl (hb hby d3_35) rfl ?_
    refine XS.ifNo X28.here hx rfl (hb hby d3_37) rfl ((if0 _ _).trans (tlt hc37).2.2.2) ?_
    refine XS.lload X28.here hx rfl (hb hby d3_40) rfl ?_
    refine XS.goto X28.here hx rfl (pc0 := 42) (pc' := 46) rfl (hb hby d3_42) (by decide) (by decide) ?_
    refine XS.lstore X28.here hx rfl (hb hby d3_46) rfl (l' := #[.val (.long cc), .second, .val (.long ru), .second, .val (.int rs), .val (.long dy), .second, .val (.int yd), .val (.int pl), .val (.int (tA pl rs)), .val (.long (powF N)), .second, .val (.long (powF N)), .second, .unset, .unset, .unset, .unset, .unset, .unset, .unset, .unset, .unset, .unset, .unset, .unset, .unset, .unset, .unset, .unset, .unset, .unset]) rfl ?_
    refine XS.iload X28.here hx rfl (hb hby d3_48) rfl ?_
    show Steps p.tables e below (T28.setTop (mkF m 50 #[.val (.long cc), .second, .val (.long ru), .second, .val (.int rs), .val (.long dy), .second, .val (.int yd), .val (.int pl), .val (.int (tA pl rs)), .val (.long (powF N)), .second, .val (.long (powF N)), .second, .unset, .unset, .unset, .unset, .unset, .unset, .unset, .unset, .unset, .unset, .unset, .unset, .unset, .unset, .unset, .unset, .unset, .unset] [(.int (tA pl rs))])) _
    refine XS.ifNo X28.here hx rfl (hb hby d3_50) rfl ((if0 _ _).trans (tlt hc50).2.2.2) ?_
    refine XS.lconst X28.here hx rfl (hb hby d3_53) ?_
    refine XS.goto X28.here hx rfl (pc0 := 54) (pc' := 59) rfl (hb hby d3_54) (by decide) (by decide) ?_
    refine XS.lstore X28.here hx rfl (hb hby d3_59) rfl (l' := #[.val (.long cc), .second, .val (.long ru), .second, .val (.int rs), .val (.long dy), .second, .val (.int yd), .val (.int pl), .val (.int (tA pl rs)), .val (.long (powF N)), .second, .val (.long (powF N)), .second, .val (.long (1 : Int64)), .second, .unset, .unset, .unset, .unset, .unset, .unset, .unset, .unset, .unset, .unset, .unset, .unset, .unset, .unset, .unset, .unset]) rfl ?_
    refine XS.lloadN X28.here hx rfl (hb hby d3_61) rfl ?_
    refine XS.lload X28.here hx rfl (hb hby d3_62) rfl ?_
    show Steps p.tables e below (T28.setTop (mkF m 64 #[.val (.long cc), .second, .val (.long ru), .second, .val (.int rs), .val (.long dy), .second, .val (.int yd), .val (.int pl), .val (.int (tA pl rs)), .val (.long (powF N)), .second, .val (.long (powF N)), .second, .val (.long (1 : Int64)), .second, .unset, .unset, .unset, .unset, .unset, .unset, .unset, .unset, .unset, .unset, .unset, .unset, .unset, .unset, .unset, .unset] [(.long dy), (.long ru)])) _
    refine st29 _ ?_
    refine XS.ifNo X29.here hx rfl (hb hby d3_67) rfl ((if0 _ _).trans (feq hc67).1) ?_
    refine XS.lloadN X29.here hx rfl (hb hby d3_70) rfl ?_
    refine XS.lload X29.here hx rfl (hb hby d3_71) rfl ?_
    refine XS.lmul X29.here hx rfl (hb hby d3_73) rfl ?_
    refine XS.lload X29.here hx rfl (hb hby d3_74) rfl ?_
    show Steps p.tables e below (T29.setTop (mkF m 76 #[.val (.long cc), .second, .val (.long ru), .second, .val (.int rs), .val (.long dy), .second, .val (.int yd), .val (.int pl), .val (.int (tA pl rs)), .val (.long (powF N)), .second, .val (.long (powF N)), .second, .val (.long (1 : Int64)), .second, .unset, .unset, .unset, .unset, .unset, .unset, .unset, .unset, .unset, .unset, .unset, .unset, .unset, .unset, .unset, .unset] [(.long (powF N)), (.long (ru * dy))])) _
    refine st30 _ ?_
    refine XS.ifNo X30.here hx rfl (hb hby d3_79) rfl ((if0 _ _).trans (feq hc79).1) ?_
    refine XS.iload X30.here hx rfl (hb hby d3_82) rfl ?_
    refine XS.i2l X30.here hx rfl (hb hby d3_84) rfl ?_
    refine XS.lload X30.here hx rfl (hb hby d3_85) rfl ?_
    show Steps p.tables e below (T30.setTop (mkF m 87 #[.val (.long cc), .second, .val (.long ru), .second, .val (.int rs), .val (.long dy), .second, .val (.int yd), .val (.int pl), .val (.int (tA pl rs)), .val (.long (powF N)), .second, .val (.long (powF N)), .second, .val (.long (1 : Int64)), .second, .unset, .unset, .unset, .unset, .unset, .unset, .unset, .unset, .unset, .unset, .unset, .unset, .unset, .unset, .unset, .unset] [(.long (1 : Int64)), (.long (yd.toInt64))])) _
    refine st31 _ ?_
    refine XS.ifYes X31.here hx rfl (pc0 := 90) (pc' := 97) rfl (hb hby d3_90) rfl ((if0 _ _).trans (feq hc90).2) (by decide) (by decide) ?_
    refine XS.lloadN X31.here hx rfl (hb hby d3_97) rfl ?_
    refine XS.lload X31.here hx rfl (hb hby d3_98) rfl ?_
    refine XS.lmul X31.here hx rfl (hb hby d3_100) rfl ?_
    refine XS.lload X31.here hx rfl (hb hby d3_101) rfl ?_
    refine XS.lmul X31.here hx rfl (hb hby d3_103) rfl ?_
    show Steps p.tables e below (T31.setTop (mkF m 104 #[.val (.long cc), .second, .val (.long ru), .second, .val (.int rs), .val (.long dy), .second, .val (.int yd), .val (.int pl), .val (.int (tA pl rs)), .val (.long (powF N)), .second, .val (.long (powF N)), .second, .val (.long (1 : Int64)), .second, .unset, .unset, .unset, .unset, .unset, .unset, .unset, .unset, .unset, .unset, .unset, .unset, .unset, .unset, .unset, .unset] [(.long (perF ru dy (powF N)))])) _
    refine XS.lstore X31.here hx rfl (hb hby d3_104) rfl (l' := #[.val (.long cc), .second, .val (.long ru), .second, .val (.int rs), .val (.long dy), .second, .val (.int yd), .val (.int pl), .val (.int (tA pl rs)), .val (.long (powF N)), .second, .val (.long (powF N)), .second, .val (.long (1 : Int64)), .second, .val (.long (perF ru dy (powF N))), .second, .unset, .unset, .unset, .unset, .unset, .unset, .unset, .unset, .unset, .unset, .unset, .unset, .unset, .unset]) rfl ?_
    refine XS.iload X31.here hx rfl (hb hby d3_106) rfl ?_
    refine XS.i2l X31.here hx rfl (hb hby d3_108) rfl ?_
    refine XS.lload X31.here hx rfl (hb hby d3_109) rfl ?_
    refine XS.lmul X31.here hx rfl (hb hby d3_111) rfl ?_
    show Steps p.tables e below (T31.setTop (mkF m 112 #[.val (.long cc), .second, .val (.long ru), .second, .val (.int rs), .val (.long dy), .second, .val (.int yd), .val (.int pl), .val (.int (tA pl rs)), .val (.long (powF N)), .second, .val (.long (powF N)), .second, .val (.long (1 : Int64)), .second, .val (.long (perF ru dy (powF N))), .second, .unset, .unset, .unset, .unset, .unset, .unset, .unset, .unset, .unset, .unset, .unset, .unset, .unset, .unset] [(.long (divF yd (1 : Int64)))])) _
    refine XS.lstore X31.here hx rfl (hb hby d3_112) rfl (l' := #[.val (.long cc), .second, .val (.long ru), .second, .val (.int rs), .val (.long dy), .second, .val (.int yd), .val (.int pl), .val (.int (tA pl rs)), .val (.long (powF N)), .second, .val (.long (powF N)), .second, .val (.long (1 : Int64)), .second, .val (.long (perF ru dy (powF N))), .second, .val (.long (divF yd (1 : Int64))), .second, .unset, .unset, .unset, .unset, .unset, .unset, .unset, .unset, .unset, .unset, .unset, .unset]) rfl ?_
    refine XS.lload X31.here hx rfl (hb hby d3_114) rfl ?_
    refine XS.lload X31.here hx rfl (hb hby d3_116) rfl ?_
    refine XS.ldiv X31.here hx rfl (hb hby d3_118) rfl hnz118 ?_
    show Steps p.tables e below (T31.setTop (mkF m 119 #[.val (.long cc), .second, .val (.long ru), .second, .val (.int rs), .val (.long dy), .second, .val (.int yd), .val (.int pl), .val (.int (tA pl rs)), .val (.long (powF N)), .second, .val (.long (powF N)), .second, .val (.long (1 : Int64)), .second, .val (.long (perF ru dy (powF N))), .second, .val (.long (divF yd (1 : Int64))), .second, .unset, .unset, .unset, .unset, .unset, .unset, .unset, .unset, .unset, .unset, .unset, .unset] [(.long ((perF ru dy (powF N)) / (divF yd (1 : Int64))))])) _
    refine XS.lstore X31.here hx rfl (hb hby d3_119) rfl (l' := #[.val (.long cc), .second, .val (.long ru), .second, .val (.int rs), .val (.long dy), .second, .val (.int yd), .val (.int pl), .val (.int (tA pl rs)), .val (.long (powF N)), .second, .val (.long (powF N)), .second, .val (.long (1 : Int64)), .second, .val (.long (perF ru dy (powF N))), .second, .val (.long (divF yd (1 : Int64))), .second, .val (.long ((perF ru dy (powF N)) / (divF yd (1 : Int64)))), .second, .unset, .unset, .unset, .unset, .unset, .unset, .unset, .unset, .unset, .unset]) rfl ?_
    refine XS.lload X31.here hx rfl (hb hby d3_121) rfl ?_
    refine XS.lload X31.here hx rfl (hb hby d3_123) rfl ?_
    refine gwLrem X31.here hx rfl (hb hby d3_125) rfl hnz125 ?_
    show Steps p.tables e below (T31.setTop (mkF m 126 #[.val (.long cc), .second, .val (.long ru), .second, .val (.int rs), .val (.long dy), .second, .val (.int yd), .val (.int pl), .val (.int (tA pl rs)), .val (.long (powF N)), .second, .val (.long (powF N)), .second, .val (.long (1 : Int64)), .second, .val (.long (perF ru dy (powF N))), .second, .val (.long (divF yd (1 : Int64))), .second, .val (.long ((perF ru dy (powF N)) / (divF yd (1 : Int64)))), .second, .unset, .unset, .unset, .unset, .unset, .unset, .unset, .unset, .unset, .unset] [(.long ((perF ru dy (powF N)) % (divF yd (1 : Int64))))])) _
    refine XS.lstore X31.here hx rfl (hb hby d3_126) rfl (l' := #[.val (.long cc), .second, .val (.long ru), .second, .val (.int rs), .val (.long dy), .second, .val (.int yd), .val (.int pl), .val (.int (tA pl rs)), .val (.long (powF N)), .second, .val (.long (powF N)), .second, .val (.long (1 : Int64)), .second, .val (.long (perF ru dy (powF N))), .second, .val (.long (divF yd (1 : Int64))), .second, .val (.long ((perF ru dy (powF N)) / (divF yd (1 : Int64)))), .second, .val (.long ((perF ru dy (powF N)) % (divF yd (1 : Int64)))), .second, .unset, .unset, .unset, .unset, .unset, .unset, .unset, .unset]) rfl ?_
    refine XS.lloadN X31.here hx rfl (hb hby d3_128) rfl ?_
    refine XS.lload X31.here hx rfl (hb hby d3_129) rfl ?_
    show Steps p.tables e below (T31.setTop (mkF m 131 #[.val (.long cc), .second, .val (.long ru), .second, .val (.int rs), .val (.long dy), .second, .val (.int yd), .val (.int pl), .val (.int (tA pl rs)), .val (.long (powF N)), .second, .val (.long (powF N)), .second, .val (.long (1 : Int64)), .second, .val (.long (perF ru dy (powF N))), .second, .val (.long (divF yd (1 : Int64))), .second, .val (.long ((perF ru dy (powF N)) / (divF yd (1 : Int64)))), .second, .val (.long ((perF ru dy (powF N)) % (divF yd (1 : Int64)))), .second, .unset, .unset, .unset, .unset, .unset, .unset, .unset, .unset] [(.long ((perF ru dy (powF N)) / (divF yd (1 : Int64)))), (.long cc)])) _
    refine st32 _ ?_
    refine XS.ifNo X32.here hx rfl (hb hby d3_134) rfl ((if0 _ _).trans (feq hc134).1) ?_
    refine XS.lloadN X32.here hx rfl (hb hby d3_137) rfl ?_
    refine XS.lload X32.here hx rfl (hb hby d3_138) rfl ?_
    show Steps p.tables e below (T32.setTop (mkF m 140 #[.val (.long cc), .second, .val (.long ru), .second, .val (.int rs), .val (.long dy), .second, .val (.int yd), .val (.int pl), .val (.int (tA pl rs)), .val (.long (powF N)), .second, .val (.long (powF N)), .second, .val (.long (1 : Int64)), .second, .val (.long (perF ru dy (powF N))), .second, .val (.long (divF yd (1 : Int64))), .second, .val (.long ((perF ru dy (powF N)) / (divF yd (1 : Int64)))), .second, .val (.long ((perF ru dy (powF N)) % (divF yd (1 : Int64)))), .second, .unset, .unset, .unset, .unset, .unset, .unset, .unset, .unset] [(.long ((perF ru dy (powF N)) % (divF yd (1 : Int64)))), (.long cc)])) _
    refine st33 _ ?_
    refine XS.ifYes X33.here hx rfl (pc0 := 143) (pc' := 150) rfl (hb hby d3_143) rfl ((if0 _ _).trans (feq hc143).2) (by decide) (by decide) ?_
    refine XS.lloadN X33.here hx rfl (hb hby d3_150) rfl ?_
    refine XS.lload X33.here hx rfl (hb hby d3_151) rfl ?_
    refine XS.lmul X33.here hx rfl (hb hby d3_153) rfl ?_
    refine XS.lstore X33.here hx rfl (hb hby d3_154) rfl (l' := #[.val (.long cc), .second, .val (.long ru), .second, .val (.int rs), .val (.long dy), .second, .val (.int yd), .val (.int pl), .val (.int (tA pl rs)), .val (.long (powF N)), .second, .val (.long (powF N)), .second, .val (.long (1 : Int64)), .second, .val (.long (perF ru dy (powF N))), .second, .val (.long (divF yd (1 : Int64))), .second, .val (.long ((perF ru dy (powF N)) / (divF yd (1 : Int64)))), .second, .val (.long ((perF ru dy (powF N)) % (divF yd (1 : Int64)))), .second, .val (.long (cc * ((perF ru dy (powF N)) / (divF yd (1 : Int64))))), .second, .unset, .unset, .unset, .unset, .unset, .unset]) rfl ?_
    refine XS.lloadN X33.here hx rfl (hb hby d3_156) rfl ?_
    refine XS.lload X33.here hx rfl (hb hby d3_157) rfl ?_
    show Steps p.tables e below (T33.setTop (mkF m 159 #[.val (.long cc), .second, .val (.long ru), .second, .val (.int rs), .val (.long dy), .second, .val (.int yd), .val (.int pl), .val (.int (tA pl rs)), .val (.long (powF N)), .second, .val (.long (powF N)), .second, .val (.long (1 : Int64)), .second, .val (.long (perF ru dy (powF N))), .second, .val (.long (divF yd (1 : Int64))), .second, .val (.long ((perF ru dy (powF N)) / (divF yd (1 : Int64)))), .second, .val (.long ((perF ru dy (powF N)) % (divF yd (1 : Int64)))), .second, .val (.long (cc * ((perF ru dy (powF N)) / (divF yd (1 : Int64))))), .second, .unset, .unset, .unset, .unset, .unset, .unset] [(.long ((perF ru dy (powF N)) % (divF yd (1 : Int64)))), (.long cc)])) _
    refine XS.lmul X33.here hx rfl (hb hby d3_159) rfl ?_
    refine XS.lload X33.here hx rfl (hb hby d3_160) rfl ?_
    refine XS.ldiv X33.here hx rfl (hb hby d3_162) rfl hnz162 ?_
    refine XS.lstore X33.here hx rfl (hb hby d3_163) rfl (l' := #[.val (.long cc), .second, .val (.long ru), .second, .val (.int rs), .val (.long dy), .second, .val (.int yd), .val (.int pl), .val (.int (tA pl rs)), .val (.long (powF N)), .second, .val (.long (powF N)), .second, .val (.long (1 : Int64)), .second, .val (.long (perF ru dy (powF N))), .second, .val (.long (divF yd (1 : Int64))), .second, .val (.long ((perF ru dy (powF N)) / (divF yd (1 : Int64)))), .second, .val (.long ((perF ru dy (powF N)) % (divF yd (1 : Int64)))), .second, .val (.long (cc * ((perF ru dy (powF N)) / (divF yd (1 : Int64))))), .second, .val (.long ((cc * ((perF ru dy (powF N)) % (divF yd (1 : Int64)))) / (divF yd (1 : Int64)))), .second, .unset, .unset, .unset, .unset]) rfl ?_
    refine XS.lloadN X33.here hx rfl (hb hby d3_165) rfl ?_
    refine XS.lload X33.here hx rfl (hb hby d3_166) rfl ?_
    refine XS.lmul X33.here hx rfl (hb hby d3_168) rfl ?_
    refine XS.lload X33.here hx rfl (hb hby d3_169) rfl ?_
    show Steps p.tables e below (T33.setTop (mkF m 171 #[.val (.long cc), .second, .val (.long ru), .second, .val (.int rs), .val (.long dy), .second, .val (.int yd), .val (.int pl), .val (.int (tA pl rs)), .val (.long (powF N)), .second, .val (.long (powF N)), .second, .val (.long (1 : Int64)), .second, .val (.long (perF ru dy (powF N))), .second, .val (.long (divF yd (1 : Int64))), .second, .val (.long ((perF ru dy (powF N)) / (divF yd (1 : Int64)))), .second, .val (.long ((perF ru dy (powF N)) % (divF yd (1 : Int64)))), .second, .val (.long (cc * ((perF ru dy (powF N)) / (divF yd (1 : Int64))))), .second, .val (.long ((cc * ((perF ru dy (powF N)) % (divF yd (1 : Int64)))) / (divF yd (1 : Int64)))), .second, .unset, .unset, .unset, .unset] [(.long (divF yd (1 : Int64))), (.long (cc * ((perF ru dy (powF N)) % (divF yd (1 : Int64)))))])) _
    refine gwLrem X33.here hx rfl (hb hby d3_171) rfl hnz171 ?_
    show Steps p.tables e below (T33.setTop (mkF m 172 #[.val (.long cc), .second, .val (.long ru), .second, .val (.int rs), .val (.long dy), .second, .val (.int yd), .val (.int pl), .val (.int (tA pl rs)), .val (.long (powF N)), .second, .val (.long (powF N)), .second, .val (.long (1 : Int64)), .second, .val (.long (perF ru dy (powF N))), .second, .val (.long (divF yd (1 : Int64))), .second, .val (.long ((perF ru dy (powF N)) / (divF yd (1 : Int64)))), .second, .val (.long ((perF ru dy (powF N)) % (divF yd (1 : Int64)))), .second, .val (.long (cc * ((perF ru dy (powF N)) / (divF yd (1 : Int64))))), .second, .val (.long ((cc * ((perF ru dy (powF N)) % (divF yd (1 : Int64)))) / (divF yd (1 : Int64)))), .second, .unset, .unset, .unset, .unset] [(.long ((cc * ((perF ru dy (powF N)) % (divF yd (1 : Int64)))) % (divF yd (1 : Int64))))])) _
    refine st34 _ ?_
    show Steps p.tables e below (T34.setTop (mkF m 175 #[.val (.long cc), .second, .val (.long ru), .second, .val (.int rs), .val (.long dy), .second, .val (.int yd), .val (.int pl), .val (.int (tA pl rs)), .val (.long (powF N)), .second, .val (.long (powF N)), .second, .val (.long (1 : Int64)), .second, .val (.long (perF ru dy (powF N))), .second, .val (.long (divF yd (1 : Int64))), .second, .val (.long ((perF ru dy (powF N)) / (divF yd (1 : Int64)))), .second, .val (.long ((perF ru dy (powF N)) % (divF yd (1 : Int64)))), .second, .val (.long (cc * ((perF ru dy (powF N)) / (divF yd (1 : Int64))))), .second, .val (.long ((cc * ((perF ru dy (powF N)) % (divF yd (1 : Int64)))) / (divF yd (1 : Int64)))), .second, .unset, .unset, .unset, .unset] [(.long (remF cc ((perF ru dy (powF N)) % (divF yd (1 : Int64))) (divF yd (1 : Int64))))])) _
    refine XS.lstore X34.here hx rfl (hb hby d3_175) rfl (l' := #[.val (.long cc), .second, .val (.long ru), .second, .val (.int rs), .val (.long dy), .second, .val (.int yd), .val (.int pl), .val (.int (tA pl rs)), .val (.long (powF N)), .second, .val (.long (powF N)), .second, .val (.long (1 : Int64)), .second, .val (.long (perF ru dy (powF N))), .second, .val (.long (divF yd (1 : Int64))), .second, .val (.long ((perF ru dy (powF N)) / (divF yd (1 : Int64)))), .second, .val (.long ((perF ru dy (powF N)) % (divF yd (1 : Int64)))), .second, .val (.long (cc * ((perF ru dy (powF N)) / (divF yd (1 : Int64))))), .second, .val (.long ((cc * ((perF ru dy (powF N)) % (divF yd (1 : Int64)))) / (divF yd (1 : Int64)))), .second, .val (.long (remF cc ((perF ru dy (powF N)) % (divF yd (1 : Int64))) (divF yd (1 : Int64)))), .second, .unset, .unset]) rfl ?_
    refine XS.lload X34.here hx rfl (hb hby d3_177) rfl ?_
    refine XS.lload X34.here hx rfl (hb hby d3_179) rfl ?_
    refine XS.lload X34.here hx rfl (hb hby d3_181) rfl ?_
    refine XS.lsub X34.here hx rfl (hb hby d3_183) rfl ?_
    refine XS.lcmp X34.here hx rfl (hb hby d3_184) rfl ?_
    refine XS.ifNo X34.here hx rfl (hb hby d3_185) rfl ((if0 _ _).trans (flt hc185).1) ?_
    refine XS.lloadN X34.here hx rfl (hb hby d3_188) rfl ?_
    show Steps p.tables e below (T34.setTop (mkF m 189 #[.val (.long cc), .second, .val (.long ru), .second, .val (.int rs), .val (.long dy), .second, .val (.int yd), .val (.int pl), .val (.int (tA pl rs)), .val (.long (powF N)), .second, .val (.long (powF N)), .second, .val (.long (1 : Int64)), .second, .val (.long (perF ru dy (powF N))), .second, .val (.long (divF yd (1 : Int64))), .second, .val (.long ((perF ru dy (powF N)) / (divF yd (1 : Int64)))), .second, .val (.long ((perF ru dy (powF N)) % (divF yd (1 : Int64)))), .second, .val (.long (cc * ((perF ru dy (powF N)) / (divF yd (1 : Int64))))), .second, .val (.long ((cc * ((perF ru dy (powF N)) % (divF yd (1 : Int64)))) / (divF yd (1 : Int64)))), .second, .val (.long (remF cc ((perF ru dy (powF N)) % (divF yd (1 : Int64))) (divF yd (1 : Int64)))), .second, .unset, .unset] [(.long cc)])) _
    refine st35 _ ?_
    refine XS.lload X35.here hx rfl (hb hby d3_192) rfl ?_
    show Steps p.tables e below (T35.setTop (mkF m 194 #[.val (.long cc), .second, .val (.long ru), .second, .val (.int rs), .val (.long dy), .second, .val (.int yd), .val (.int pl), .val (.int (tA pl rs)), .val (.long (powF N)), .second, .val (.long (powF N)), .second, .val (.long (1 : Int64)), .second, .val (.long (perF ru dy (powF N))), .second, .val (.long (divF yd (1 : Int64))), .second, .val (.long ((perF ru dy (powF N)) / (divF yd (1 : Int64)))), .second, .val (.long ((perF ru dy (powF N)) % (divF yd (1 : Int64)))), .second, .val (.long (cc * ((perF ru dy (powF N)) / (divF yd (1 : Int64))))), .second, .val (.long ((cc * ((perF ru dy (powF N)) % (divF yd (1 : Int64)))) / (divF yd (1 : Int64)))), .second, .val (.long (remF cc ((perF ru dy (powF N)) % (divF yd (1 : Int64))) (divF yd (1 : Int64)))), .second, .unset, .unset] [(.long (perF ru dy (powF N))), (.int (sigF cc))])) _
    refine st36 _ ?_
    refine XS.imul X36.here hx rfl (hb hby d3_197) rfl ?_
    refine XS.i2l X36.here hx rfl (hb hby d3_198) rfl ?_
    refine XS.goto X36.here hx rfl (pc0 := 199) (pc' := 203) rfl (hb hby d3_199) (by decide) (by decide) ?_
    show Steps p.tables e below (T36.setTop (mkF m 203 #[.val (.long cc), .second, .val (.long ru), .second, .val (.int rs), .val (.long dy), .second, .val (.int yd), .val (.int pl), .val (.int (tA pl rs)), .val (.long (powF N)), .second, .val (.long (powF N)), .second, .val (.long (1 : Int64)), .second, .val (.long (perF ru dy (powF N))), .second, .val (.long (divF yd (1 : Int64))), .second, .val (.long ((perF ru dy (powF N)) / (divF yd (1 : Int64)))), .second, .val (.long ((perF ru dy (powF N)) % (divF yd (1 : Int64)))), .second, .val (.long (cc * ((perF ru dy (powF N)) / (divF yd (1 : Int64))))), .second, .val (.long ((cc * ((perF ru dy (powF N)) % (divF yd (1 : Int64)))) / (divF yd (1 : Int64)))), .second, .val (.long (remF cc ((perF ru dy (powF N)) % (divF yd (1 : Int64))) (divF yd (1 : Int64)))), .second, .unset, .unset] [(.long (rupF cc (perF ru dy (powF N))))])) _
    refine XS.lstore X36.here hx rfl (hb hby d3_203) rfl (l' := #[.val (.long cc), .second, .val (.long ru), .second, .val (.int rs), .val (.long dy), .second, .val (.int yd), .val (.int pl), .val (.int (tA pl rs)), .val (.long (powF N)), .second, .val (.long (powF N)), .second, .val (.long (1 : Int64)), .second, .val (.long (perF ru dy (powF N))), .second, .val (.long (divF yd (1 : Int64))), .second, .val (.long ((perF ru dy (powF N)) / (divF yd (1 : Int64)))), .second, .val (.long ((perF ru dy (powF N)) % (divF yd (1 : Int64)))), .second, .val (.long (cc * ((perF ru dy (powF N)) / (divF yd (1 : Int64))))), .second, .val (.long ((cc * ((perF ru dy (powF N)) % (divF yd (1 : Int64)))) / (divF yd (1 : Int64)))), .second, .val (.long (remF cc ((perF ru dy (powF N)) % (divF yd (1 : Int64))) (divF yd (1 : Int64)))), .second, .val (.long (rupF cc (perF ru dy (powF N)))), .second]) rfl ?_
    refine XS.lload X36.here hx rfl (hb hby d3_205) rfl ?_
    refine XS.lload X36.here hx rfl (hb hby d3_207) rfl ?_
    show Steps p.tables e below (T36.setTop (mkF m 209 #[.val (.long cc), .second, .val (.long ru), .second, .val (.int rs), .val (.long dy), .second, .val (.int yd), .val (.int pl), .val (.int (tA pl rs)), .val (.long (powF N)), .second, .val (.long (powF N)), .second, .val (.long (1 : Int64)), .second, .val (.long (perF ru dy (powF N))), .second, .val (.long (divF yd (1 : Int64))), .second, .val (.long ((perF ru dy (powF N)) / (divF yd (1 : Int64)))), .second, .val (.long ((perF ru dy (powF N)) % (divF yd (1 : Int64)))), .second, .val (.long (cc * ((perF ru dy (powF N)) / (divF yd (1 : Int64))))), .second, .val (.long ((cc * ((perF ru dy (powF N)) % (divF yd (1 : Int64)))) / (divF yd (1 : Int64)))), .second, .val (.long (remF cc ((perF ru dy (powF N)) % (divF yd (1 : Int64))) (divF yd (1 : Int64)))), .second, .val (.long (rupF cc (perF ru dy (powF N)))), .second] [(.long ((cc * ((perF ru dy (powF N)) % (divF yd (1 : Int64)))) / (divF yd (1 : Int64)))), (.long (cc * ((perF ru dy (powF N)) / (divF yd (1 : Int64)))))])) _
    refine st37 _ ?_
    refine XS.ifNo X37.here hx rfl (hb hby d3_212) rfl ((if0 _ _).trans (feq hc212).1) ?_
    refine XS.lload X37.here hx rfl (hb hby d3_215) rfl ?_
    refine XS.lload X37.here hx rfl (hb hby d3_217) rfl ?_
    refine XS.ladd X37.here hx rfl (hb hby d3_219) rfl ?_
    refine XS.lload X37.here hx rfl (hb hby d3_220) rfl ?_
    show Steps p.tables e below (T37.setTop (mkF m 222 #[.val (.long cc), .second, .val (.long ru), .second, .val (.int rs), .val (.long dy), .second, .val (.int yd), .val (.int pl), .val (.int (tA pl rs)), .val (.long (powF N)), .second, .val (.long (powF N)), .second, .val (.long (1 : Int64)), .second, .val (.long (perF ru dy (powF N))), .second, .val (.long (divF yd (1 : Int64))), .second, .val (.long ((perF ru dy (powF N)) / (divF yd (1 : Int64)))), .second, .val (.long ((perF ru dy (powF N)) % (divF yd (1 : Int64)))), .second, .val (.long (cc * ((perF ru dy (powF N)) / (divF yd (1 : Int64))))), .second, .val (.long ((cc * ((perF ru dy (powF N)) % (divF yd (1 : Int64)))) / (divF yd (1 : Int64)))), .second, .val (.long (remF cc ((perF ru dy (powF N)) % (divF yd (1 : Int64))) (divF yd (1 : Int64)))), .second, .val (.long (rupF cc (perF ru dy (powF N)))), .second] [(.long (rupF cc (perF ru dy (powF N)))), (.long ((cc * ((perF ru dy (powF N)) / (divF yd (1 : Int64)))) + ((cc * ((perF ru dy (powF N)) % (divF yd (1 : Int64)))) / (divF yd (1 : Int64)))))])) _
    refine st38 _ ?_
    refine XS.ifYes X38.here hx rfl (pc0 := 225) (pc' := 232) rfl (hb hby d3_225) rfl ((if0 _ _).trans (feq hc225).2) (by decide) (by decide) ?_
    refine XS.lload X38.here hx rfl (hb hby d3_232) rfl ?_
    refine XS.lload X38.here hx rfl (hb hby d3_234) rfl ?_
    refine XS.ladd X38.here hx rfl (hb hby d3_236) rfl ?_
    refine XS.lload X38.here hx rfl (hb hby d3_237) rfl ?_
    refine XS.ladd X38.here hx rfl (hb hby d3_239) rfl ?_
    show Steps p.tables e below (T38.setTop (mkF m 240 #[.val (.long cc), .second, .val (.long ru), .second, .val (.int rs), .val (.long dy), .second, .val (.int yd), .val (.int pl), .val (.int (tA pl rs)), .val (.long (powF N)), .second, .val (.long (powF N)), .second, .val (.long (1 : Int64)), .second, .val (.long (perF ru dy (powF N))), .second, .val (.long (divF yd (1 : Int64))), .second, .val (.long ((perF ru dy (powF N)) / (divF yd (1 : Int64)))), .second, .val (.long ((perF ru dy (powF N)) % (divF yd (1 : Int64)))), .second, .val (.long (cc * ((perF ru dy (powF N)) / (divF yd (1 : Int64))))), .second, .val (.long ((cc * ((perF ru dy (powF N)) % (divF yd (1 : Int64)))) / (divF yd (1 : Int64)))), .second, .val (.long (remF cc ((perF ru dy (powF N)) % (divF yd (1 : Int64))) (divF yd (1 : Int64)))), .second, .val (.long (rupF cc (perF ru dy (powF N)))), .second] [(.long (sum3 (cc * ((perF ru dy (powF N)) / (divF yd (1 : Int64)))) ((cc * ((perF ru dy (powF N)) % (divF yd (1 : Int64)))) / (divF yd (1 : Int64))) (rupF cc (perF ru dy (powF N)))))])) _
    jvm_step X38.here [X38.here.top, hx, (hb hby d3_240), X38.method', Bd.returns, narrow]
    first | (intro acts; rw [hr _ acts rfl rfl rfl]) | rw [hr _ _ rfl rfl rfl]
    exact Steps.refl _
  · show QJ (sum3 (cc * ((perF ru dy (powF N)) / (divF yd (1 : Int64)))) ((cc * ((perF ru dy (powF N)) % (divF yd (1 : Int64)))) / (divF yd (1 : Int64))) (rupF cc (perF ru dy (powF N)))) h0 n0 _ T38.heap _
    rw [e38]
    exact ⟨rfl, N38, rfl⟩
set_option maxRecDepth 65536 in
set_option maxHeartbeats 40000000 in
theorem rm3_N0 (l : Launch) (Z : State) (a0 : Array Value) (hw : ∀ d ∈ tables_1, d.before a0 Z = true) (ws : List Jvm.Cond) (cc : Int64) (ru : Int64) (rs : Int32) (dy : Int64) (yd : Int32) (pl : Int32) (N : Nat) (h0 : Heap) (n0 : Nat) (Z0 : n0 ≤ h0.size) (hN : absI (tA pl rs) = Int32.ofNat N) (hN1 : N < 100) (hc18 : ¬ ((18 : Int32) < (absI (tA pl rs)))) (hc37 : ¬ ((0 : Int32) < (tA pl rs))) (hc50 : ¬ ((0 : Int32) < (tA pl rs))) (hc67 : ¬ ((proF ru dy) = (0 : Int32))) (hc79 : ¬ ((proF (ru * dy) (1 : Int64)) = (0 : Int32))) (hc90 : ¬ ((proF (yd.toInt64) (powF N)) = (0 : Int32))) (hnz118 : ¬ ((divF yd (powF N)) = (0 : Int64))) (hnz125 : ¬ ((divF yd (powF N)) = (0 : Int64))) (hc134 : ¬ ((proF cc ((perF ru dy (1 : Int64)) / (divF yd (powF N)))) = (0 : Int32))) (hc143 : ¬ ((proF cc ((perF ru dy (1 : Int64)) % (divF yd (powF N)))) = (0 : Int32))) (hnz162 : ¬ ((divF yd (powF N)) = (0 : Int64))) (hnz171 : ¬ ((divF yd (powF N)) = (0 : Int64))) (hc185 : (lcmpW (remF cc ((perF ru dy (1 : Int64)) % (divF yd (powF N))) (divF yd (powF N))) ((divF yd (powF N)) - (remF cc ((perF ru dy (1 : Int64)) % (divF yd (powF N))) (divF yd (powF N))))) < (0 : Int32)) (hc212 : ¬ ((sumF (cc * ((perF ru dy (1 : Int64)) / (divF yd (powF N)))) ((cc * ((perF ru dy (1 : Int64)) % (divF yd (powF N)))) / (divF yd (powF N)))) = (0 : Int32))) (hc225 : ¬ ((sumF ((cc * ((perF ru dy (1 : Int64)) / (divF yd (powF N)))) + ((cc * ((perF ru dy (1 : Int64)) % (divF yd (powF N)))) / (divF yd (powF N)))) (0 : Int64)) = (0 : Int32))) :
    MetFree l (⟨"com/example/syndicata/syndicata/Accrual", "accruedUnits", "(JJIJII)J"⟩ : MethodName) (head1 (Jvm.Cond.code (⟨"com/example/syndicata/syndicata/Accrual", "accruedUnits", "(JJIJII)J"⟩ : MethodName) prog_1_method_9_code 32 (some .long) :: ws) ({ frames := 2, cells := 0, slots := 0, locals := 46 } : Room)) (fun aa U => aa = #[(.long cc), (.long ru), (.int rs), (.long dy), (.int yd), (.int pl)] ∧ Z.Warmed39 U.vm ∧ U.heap = h0) (fun _ _ _ _ _ => True) (fun _ U o U' => ∃ v L, o = .returned v ∧ QJ (sum3 (cc * ((perF ru dy (1 : Int64)) / (divF yd (powF N)))) ((cc * ((perF ru dy (1 : Int64)) % (divF yd (powF N)))) / (divF yd (powF N))) (0 : Int64)) h0 n0 v U'.heap L ∧ FrameEnd U o U' L ({ frames := 2, cells := 0, slots := 0, locals := 46 } : Room).cells ({ frames := 2, cells := 0, slots := 0, locals := 46 } : Room).slots) := by
  refine MetFree.of_bodySF (plainFor_of_name pn_3) hisR ?_
  intro p e s m args below meth c s₁ Bd hml0 hP hK
  obtain ⟨rfl, hZ, hh⟩ := hP
  have hx := Bd.exec
  have hby := Bd.bytes
  have hml : c.maxLocals = 32 := hml0
  have hown : s.vm.findClass "com/example/syndicata/syndicata/Accrual" = some m.cls := findClass_of_methodNamed Bd.named
  have hnm := (name_of_methodNamed Bd.named Bd.method).1
  have X0 : Stand p l e ({ frames := 2, cells := 0, slots := 0, locals := 46 } : Room) s m #[(.long cc), (.long ru), (.int rs), (.long dy), (.int yd), (.int pl)] below meth c s₁ [] 0 0 := Stand.of_body Bd
  have e0 : s₁.heap = h0 := by rw [← hh, Bd.state]; rfl
  have N0 := Fr.nil n0
  have pre0 : ∀ zz, Steps p.tables e below (s₁.setTop (mkF m 0 #[.val (.long cc), .second, .val (.long ru), .second, .val (.int rs), .val (.long dy), .second, .val (.int yd), .val (.int pl), .unset, .unset, .unset, .unset, .unset, .unset, .unset, .unset, .unset, .unset, .unset, .unset, .unset, .unset, .unset, .unset, .unset, .unset, .unset, .unset, .unset, .unset, .unset] [])) zz → Steps p.tables e below (s₁.setTop (entryFrame m #[(.long cc), (.long ru), (.int rs), (.long dy), (.int yd), (.int pl)] 32)) zz := fun zz k => castTop (ef_3 m cc ru rs dy yd pl) k
  obtain ⟨_, _, ⟨T39, L39, k39, n39⟩, -, X39, ⟨Lc39, hQ39, l39, y39, z39⟩, st39⟩ := Jvm.LawKit.callS X0 hx (y := (⟨"java/lang/Math", "abs", "(I)I"⟩ : MethodName)) hown (mvT hZ (hw _ (List.mem_of_getElem? (i := 32) rfl))) (mvT hZ (hw _ (List.mem_of_getElem? (i := 33) rfl))) (mvT hZ (hw _ (List.mem_of_getElem? (i := 23) rfl))) (mvT hZ (hw _ (List.mem_of_getElem? (i := 34) rfl))) (by decide) (backOf (W := 0) (rm4 l Z a0 hw [] (tA pl rs) h0 n0 Z0) hZ (hw _ (List.mem_of_getElem? (i := 34) rfl)) (hw _ (List.mem_of_getElem? (i := 23) rfl)) (by decide) (by decide)) (g := (mkF m 13 #[.val (.long cc), .second, .val (.long ru), .second, .val (.int rs), .val (.long dy), .second, .val (.int yd), .val (.int pl), .val (.int (tA pl rs)), .unset, .unset, .unset, .unset, .unset, .unset, .unset, .unset, .unset, .unset, .unset, .unset, .unset, .unset, .unset, .unset, .unset, .unset, .unset, .unset, .unset, .unset] [(.int (tA pl rs))])) rfl (by rw [hml]; rfl) (argsL := [(.int (tA pl rs))]) (rest := []) (lenOf pd_3 rfl) rfl (by show 2 * 0 + _ ≤ _; exact Nat.le_of_eq rfl) (hb hby d3_13) (fun _ _ => ⟨rfl, e0, (by decide : 0 + 0 ≤ _), (by decide : 0 + 0 ≤ _)⟩)
  dsimp only [Pt.U, Pt.locs, Pt.cells, Pt.slots] at X39 l39 y39 z39 st39 hQ39
  subst l39 y39 z39
  obtain ⟨rfl, N39q, e39⟩ := hQ39
  have N39 := Fr.app N0 N39q
  obtain ⟨_, _, ⟨T40, L40, k40, n40⟩, -, X40, ⟨Lc40, hQ40, l40, y40, z40⟩, st40⟩ := Jvm.LawKit.callS X39 hx (y := (⟨"java/lang/Math", "abs", "(I)I"⟩ : MethodName)) hown (mvT hZ (hw _ (List.mem_of_getElem? (i := 32) rfl))) (mvT hZ (hw _ (List.mem_of_getElem? (i := 33) rfl))) (mvT hZ (hw _ (List.mem_of_getElem? (i := 23) rfl))) (mvT hZ (hw _ (List.mem_of_getElem? (i := 34) rfl))) (by decide) (backOf (W := 0) (rm4 l Z a0 hw [] (tA pl rs) h0 n0 Z0) hZ (hw _ (List.mem_of_getElem? (i := 34) rfl)) (hw _ (List.mem_of_getElem? (i := 23) rfl)) (by decide) (by decide)) (g := (mkF m 27 #[.val (.long cc), .second, .val (.long ru), .second, .val (.int rs), .val (.long dy), .second, .val (.int yd), .val (.int pl), .val (.int (tA pl rs)), .unset, .unset, .unset, .unset, .unset, .unset, .unset, .unset, .unset, .unset, .unset, .unset, .unset, .unset, .unset, .unset, .unset, .unset, .unset, .unset, .unset, .unset] [(.int (tA pl rs))])) rfl (by rw [hml]; rfl) (argsL := [(.int (tA pl rs))]) (rest := []) (lenOf pd_3 rfl) rfl (by show 2 * 0 + _ ≤ _; exact Nat.le_of_eq rfl) (hb hby d3_27) (fun _ _ => ⟨rfl, e39, (by decide : 0 + 0 ≤ _), (by decide : 0 + 0 ≤ _)⟩)
  dsimp only [Pt.U, Pt.locs, Pt.cells, Pt.slots] at X40 l40 y40 z40 st40 hQ40
  subst l40 y40 z40
  obtain ⟨rfl, N40q, e40⟩ := hQ40
  have N40 := Fr.app N39 N40q
  rw [hN] at st40
  obtain ⟨_, _, ⟨T41, L41, k41, n41⟩, -, X41, ⟨Lc41, hQ41, l41, y41, z41⟩, st41⟩ := Jvm.LawKit.callS X40 hx (y := (⟨"com/example/syndicata/syndicata/Accrual", "powerOfTen", "(I)J"⟩ : MethodName)) hown (mvT hZ (hw _ (List.mem_of_getElem? (i := 35) rfl))) (mvT hZ (hw _ (List.mem_of_getElem? (i := 36) rfl))) (mvT hZ (hw _ (List.mem_of_getElem? (i := 30) rfl))) (mvT hZ (hw _ (List.mem_of_getElem? (i := 37) rfl))) (by decide) (backOf (W := 0) (rm5 l Z a0 hw [] N h0 n0 Z0 hN1) hZ (hw _ (List.mem_of_getElem? (i := 37) rfl)) (hw _ (List.mem_of_getElem? (i := 30) rfl)) (by decide) (by decide)) (g := (mkF m 30 #[.val (.long cc), .second, .val (.long ru), .second, .val (.int rs), .val (.long dy), .second, .val (.int yd), .val (.int pl), .val (.int (tA pl rs)), .unset, .unset, .unset, .unset, .unset, .unset, .unset, .unset, .unset, .unset, .unset, .unset, .unset, .unset, .unset, .unset, .unset, .unset, .unset, .unset, .unset, .unset] [(.int (Int32.ofNat N))])) rfl (by rw [hml]; rfl) (argsL := [(.int (Int32.ofNat N))]) (rest := []) (lenOf pd_4 rfl) rfl (by show 2 * 0 + _ ≤ _; exact Nat.le_of_eq rfl) (hb hby d3_30) (fun _ _ => ⟨rfl, e40, (by decide : 0 + 0 ≤ _), (by decide : 0 + 0 ≤ _)⟩)
  dsimp only [Pt.U, Pt.locs, Pt.cells, Pt.slots] at X41 l41 y41 z41 st41 hQ41
  subst l41 y41 z41
  obtain ⟨rfl, N41q, e41⟩ := hQ41
  have N41 := Fr.app N40 N41q
  obtain ⟨_, _, ⟨T42, L42, k42, n42⟩, -, X42, ⟨Lc42, hQ42, l42, y42, z42⟩, st42⟩ := Jvm.LawKit.callS X41 hx (y := (⟨"com/example/syndicata/syndicata/Accrual", "productFits", "(JJ)Z"⟩ : MethodName)) hown (mvT hZ (hw _ (List.mem_of_getElem? (i := 39) rfl))) (mvT hZ (hw _ (List.mem_of_getElem? (i := 40) rfl))) (mvT hZ (hw _ (List.mem_of_getElem? (i := 30) rfl))) (mvT hZ (hw _ (List.mem_of_getElem? (i := 41) rfl))) (by decide) (backOf (W := 0) (rm6 l Z a0 hw [] ru dy h0 n0 Z0) hZ (hw _ (List.mem_of_getElem? (i := 41) rfl)) (hw _ (List.mem_of_getElem? (i := 30) rfl)) (by decide) (by decide)) (g := (mkF m 64 #[.val (.long cc), .second, .val (.long ru), .second, .val (.int rs), .val (.long dy), .second, .val (.int yd), .val (.int pl), .val (.int (tA pl rs)), .val (.long (powF N)), .second, .val (.long (1 : Int64)), .second, .val (.long (powF N)), .second, .unset, .unset, .unset, .unset, .unset, .unset, .unset, .unset, .unset, .unset, .unset, .unset, .unset, .unset, .unset, .unset] [(.long dy), (.long ru)])) rfl (by rw [hml]; rfl) (argsL := [(.long ru), (.long dy)]) (rest := []) (lenOf pd_5 rfl) rfl (by show 2 * 0 + _ ≤ _; exact Nat.le_of_eq rfl) (hb hby d3_64) (fun _ _ => ⟨rfl, e41, (by decide : 0 + 0 ≤ _), (by decide : 0 + 0 ≤ _)⟩)
  dsimp only [Pt.U, Pt.locs, Pt.cells, Pt.slots] at X42 l42 y42 z42 st42 hQ42
  subst l42 y42 z42
  obtain ⟨rfl, N42q, e42⟩ := hQ42
  have N42 := Fr.app N41 N42q
  obtain ⟨_, _, ⟨T43, L43, k43, n43⟩, -, X43, ⟨Lc43, hQ43, l43, y43, z43⟩, st43⟩ := Jvm.LawKit.callS X42 hx (y := (⟨"com/example/syndicata/syndicata/Accrual", "productFits", "(JJ)Z"⟩ : MethodName)) hown (mvT hZ (hw _ (List.mem_of_getElem? (i := 39) rfl))) (mvT hZ (hw _ (List.mem_of_getElem? (i := 40) rfl))) (mvT hZ (hw _ (List.mem_of_getElem? (i := 30) rfl))) (mvT hZ (hw _ (List.mem_of_getElem? (i := 41) rfl))) (by decide) (backOf (W := 0) (rm6 l Z a0 hw [] (ru * dy) (1 : Int64) h0 n0 Z0) hZ (hw _ (List.mem_of_getElem? (i := 41) rfl)) (hw _ (List.mem_of_getElem? (i := 30) rfl)) (by decide) (by decide)) (g := (mkF m 76 #[.val (.long cc), .second, .val (.long ru), .second, .val (.int rs), .val (.long dy), .second, .val (.int yd), .val (.int pl), .val (.int (tA pl rs)), .val (.long (powF N)), .second, .val (.long (1 : Int64)), .second, .val (.long (powF N)), .second, .unset, .unset, .unset, .unset, .unset, .unset, .unset, .unset, .unset, .unset, .unset, .unset, .unset, .unset, .unset, .unset] [(.long (1 : Int64)), (.long (ru * dy))])) rfl (by rw [hml]; rfl) (argsL := [(.long (ru * dy)), (.long (1 : Int64))]) (rest := []) (lenOf pd_5 rfl) rfl (by show 2 * 0 + _ ≤ _; exact Nat.le_of_eq rfl) (hb hby d3_76) (fun _ _ => ⟨rfl, e42, (by decide : 0 + 0 ≤ _), (by decide : 0 + 0 ≤ _)⟩)
  dsimp only [Pt.U, Pt.locs, Pt.cells, Pt.slots] at X43 l43 y43 z43 st43 hQ43
  subst l43 y43 z43
  obtain ⟨rfl, N43q, e43⟩ := hQ43
  have N43 := Fr.app N42 N43q
  obtain ⟨_, _, ⟨T44, L44, k44, n44⟩, -, X44, ⟨Lc44, hQ44, l44, y44, z44⟩, st44⟩ := Jvm.LawKit.callS X43 hx (y := (⟨"com/example/syndicata/syndicata/Accrual", "productFits", "(JJ)Z"⟩ : MethodName)) hown (mvT hZ (hw _ (List.mem_of_getElem? (i := 39) rfl))) (mvT hZ (hw _ (List.mem_of_getElem? (i := 40) rfl))) (mvT hZ (hw _ (List.mem_of_getElem? (i := 30) rfl))) (mvT hZ (hw _ (List.mem_of_getElem? (i := 41) rfl))) (by decide) (backOf (W := 0) (rm6 l Z a0 hw [] (yd.toInt64) (powF N) h0 n0 Z0) hZ (hw _ (List.mem_of_getElem? (i := 41) rfl)) (hw _ (List.mem_of_getElem? (i := 30) rfl)) (by decide) (by decide)) (g := (mkF m 87 #[.val (.long cc), .second, .val (.long ru), .second, .val (.int rs), .val (.long dy), .second, .val (.int yd), .val (.int pl), .val (.int (tA pl rs)), .val (.long (powF N)), .second, .val (.long (1 : Int64)), .second, .val (.long (powF N)), .second, .unset, .unset, .unset, .unset, .unset, .unset, .unset, .unset, .unset, .unset, .unset, .unset, .unset, .unset, .unset, .unset] [(.long (powF N)), (.long (yd.toInt64))])) rfl (by rw [hml]; rfl) (argsL := [(.long (yd.toInt64)), (.long (powF N))]) (rest := []) (lenOf pd_5 rfl) rfl (by show 2 * 0 + _ ≤ _; exact Nat.le_of_eq rfl) (hb hby d3_87) (fun _ _ => ⟨rfl, e43, (by decide : 0 + 0 ≤ _), (by decide : 0 + 0 ≤ _)⟩)
  dsimp only [Pt.U, Pt.locs, Pt.cells, Pt.slots] at X44 l44 y44 z44 st44 hQ44
  subst l44 y44 z44
  obtain ⟨rfl, N44q, e44⟩ := hQ44
  have N44 := Fr.app N43 N44q
  obtain ⟨_, _, ⟨T45, L45, k45, n45⟩, -, X45, ⟨Lc45, hQ45, l45, y45, z45⟩, st45⟩ := Jvm.LawKit.callS X44 hx (y := (⟨"com/example/syndicata/syndicata/Accrual", "productFits", "(JJ)Z"⟩ : MethodName)) hown (mvT hZ (hw _ (List.mem_of_getElem? (i := 39) rfl))) (mvT hZ (hw _ (List.mem_of_getElem? (i := 40) rfl))) (mvT hZ (hw _ (List.mem_of_getElem? (i := 30) rfl))) (mvT hZ (hw _ (List.mem_of_getElem? (i := 41) rfl))) (by decide) (backOf (W := 0) (rm6 l Z a0 hw [] cc ((perF ru dy (1 : Int64)) / (divF yd (powF N))) h0 n0 Z0) hZ (hw _ (List.mem_of_getElem? (i := 41) rfl)) (hw _ (List.mem_of_getElem? (i := 30) rfl)) (by decide) (by decide)) (g := (mkF m 131 #[.val (.long cc), .second, .val (.long ru), .second, .val (.int rs), .val (.long dy), .second, .val (.int yd), .val (.int pl), .val (.int (tA pl rs)), .val (.long (powF N)), .second, .val (.long (1 : Int64)), .second, .val (.long (powF N)), .second, .val (.long (perF ru dy (1 : Int64))), .second, .val (.long (divF yd (powF N))), .second, .val (.long ((perF ru dy (1 : Int64)) / (divF yd (powF N)))), .second, .val (.long ((perF ru dy (1 : Int64)) % (divF yd (powF N)))), .second, .unset, .unset, .unset, .unset, .unset, .unset, .unset, .unset] [(.long ((perF ru dy (1 : Int64)) / (divF yd (powF N)))), (.long cc)])) rfl (by rw [hml]; rfl) (argsL := [(.long cc), (.long ((perF ru dy (1 : Int64)) / (divF yd (powF N))))]) (rest := []) (lenOf pd_5 rfl) rfl (by show 2 * 0 + _ ≤ _; exact Nat.le_of_eq rfl) (hb hby d3_131) (fun _ _ => ⟨rfl, e44, (by decide : 0 + 0 ≤ _), (by decide : 0 + 0 ≤ _)⟩)
  dsimp only [Pt.U, Pt.locs, Pt.cells, Pt.slots] at X45 l45 y45 z45 st45 hQ45
  subst l45 y45 z45
  obtain ⟨rfl, N45q, e45⟩ := hQ45
  have N45 := Fr.app N44 N45q
  obtain ⟨_, _, ⟨T46, L46, k46, n46⟩, -, X46, ⟨Lc46, hQ46, l46, y46, z46⟩, st46⟩ := Jvm.LawKit.callS X45 hx (y := (⟨"com/example/syndicata/syndicata/Accrual", "productFits", "(JJ)Z"⟩ : MethodName)) hown (mvT hZ (hw _ (List.mem_of_getElem? (i := 39) rfl))) (mvT hZ (hw _ (List.mem_of_getElem? (i := 40) rfl))) (mvT hZ (hw _ (List.mem_of_getElem? (i := 30) rfl))) (mvT hZ (hw _ (List.mem_of_getElem? (i := 41) rfl))) (by decide) (backOf (W := 0) (rm6 l Z a0 hw [] cc ((perF ru dy (1 : Int64)) % (divF yd (powF N))) h0 n0 Z0) hZ (hw _ (List.mem_of_getElem? (i := 41) rfl)) (hw _ (List.mem_of_getElem? (i := 30) rfl)) (by decide) (by decide)) (g := (mkF m 140 #[.val (.long cc), .second, .val (.long ru), .second, .val (.int rs), .val (.long dy), .second, .val (.int yd), .val (.int pl), .val (.int (tA pl rs)), .val (.long (powF N)), .second, .val (.long (1 : Int64)), .second, .val (.long (powF N)), .second, .val (.long (perF ru dy (1 : Int64))), .second, .val (.long (divF yd (powF N))), .second, .val (.long ((perF ru dy (1 : Int64)) / (divF yd (powF N)))), .second, .val (.long ((perF ru dy (1 : Int64)) % (divF yd (powF N)))), .second, .unset, .unset, .unset, .unset, .unset, .unset, .unset, .unset] [(.long ((perF ru dy (1 : Int64)) % (divF yd (powF N)))), (.long cc)])) rfl (by rw [hml]; rfl) (argsL := [(.long cc), (.long ((perF ru dy (1 : Int64)) % (divF yd (powF N))))]) (rest := []) (lenOf pd_5 rfl) rfl (by show 2 * 0 + _ ≤ _; exact Nat.le_of_eq rfl) (hb hby d3_140) (fun _ _ => ⟨rfl, e45, (by decide : 0 + 0 ≤ _), (by decide : 0 + 0 ≤ _)⟩)
  dsimp only [Pt.U, Pt.locs, Pt.cells, Pt.slots] at X46 l46 y46 z46 st46 hQ46
  subst l46 y46 z46
  obtain ⟨rfl, N46q, e46⟩ := hQ46
  have N46 := Fr.app N45 N46q
  obtain ⟨_, _, ⟨T47, L47, k47, n47⟩, -, X47, ⟨Lc47, hQ47, l47, y47, z47⟩, st47⟩ := Jvm.LawKit.callS X46 hx (y := (⟨"java/lang/Math", "abs", "(J)J"⟩ : MethodName)) hown (mvT hZ (hw _ (List.mem_of_getElem? (i := 46) rfl))) (mvT hZ (hw _ (List.mem_of_getElem? (i := 26) rfl))) (mvT hZ (hw _ (List.mem_of_getElem? (i := 23) rfl))) (mvT hZ (hw _ (List.mem_of_getElem? (i := 27) rfl))) (by decide) (backOf (W := 0) (rm2 l Z a0 hw [] ((cc * ((perF ru dy (1 : Int64)) % (divF yd (powF N)))) % (divF yd (powF N))) h0 n0 Z0) hZ (hw _ (List.mem_of_getElem? (i := 27) rfl)) (hw _ (List.mem_of_getElem? (i := 23) rfl)) (by decide) (by decide)) (g := (mkF m 172 #[.val (.long cc), .second, .val (.long ru), .second, .val (.int rs), .val (.long dy), .second, .val (.int yd), .val (.int pl), .val (.int (tA pl rs)), .val (.long (powF N)), .second, .val (.long (1 : Int64)), .second, .val (.long (powF N)), .second, .val (.long (perF ru dy (1 : Int64))), .second, .val (.long (divF yd (powF N))), .second, .val (.long ((perF ru dy (1 : Int64)) / (divF yd (powF N)))), .second, .val (.long ((perF ru dy (1 : Int64)) % (divF yd (powF N)))), .second, .val (.long (cc * ((perF ru dy (1 : Int64)) / (divF yd (powF N))))), .second, .val (.long ((cc * ((perF ru dy (1 : Int64)) % (divF yd (powF N)))) / (divF yd (powF N)))), .second, .unset, .unset, .unset, .unset] [(.long ((cc * ((perF ru dy (1 : Int64)) % (divF yd (powF N)))) % (divF yd (powF N))))])) rfl (by rw [hml]; rfl) (argsL := [(.long ((cc * ((perF ru dy (1 : Int64)) % (divF yd (powF N)))) % (divF yd (powF N))))]) (rest := []) (lenOf pd_1 rfl) rfl (by show 2 * 0 + _ ≤ _; exact Nat.le_of_eq rfl) (hb hby d3_172) (fun _ _ => ⟨rfl, e46, (by decide : 0 + 0 ≤ _), (by decide : 0 + 0 ≤ _)⟩)
  dsimp only [Pt.U, Pt.locs, Pt.cells, Pt.slots] at X47 l47 y47 z47 st47 hQ47
  subst l47 y47 z47
  obtain ⟨rfl, N47q, e47⟩ := hQ47
  have N47 := Fr.app N46 N47q
  obtain ⟨_, _, ⟨T48, L48, k48, n48⟩, -, X48, ⟨Lc48, hQ48, l48, y48, z48⟩, st48⟩ := Jvm.LawKit.callS X47 hx (y := (⟨"com/example/syndicata/syndicata/Accrual", "sumFits", "(JJ)Z"⟩ : MethodName)) hown (mvT hZ (hw _ (List.mem_of_getElem? (i := 51) rfl))) (mvT hZ (hw _ (List.mem_of_getElem? (i := 52) rfl))) (mvT hZ (hw _ (List.mem_of_getElem? (i := 30) rfl))) (mvT hZ (hw _ (List.mem_of_getElem? (i := 53) rfl))) (by decide) (backOf (W := 0) (rm9 l Z a0 hw [] (cc * ((perF ru dy (1 : Int64)) / (divF yd (powF N)))) ((cc * ((perF ru dy (1 : Int64)) % (divF yd (powF N)))) / (divF yd (powF N))) h0 n0 Z0) hZ (hw _ (List.mem_of_getElem? (i := 53) rfl)) (hw _ (List.mem_of_getElem? (i := 30) rfl)) (by decide) (by decide)) (g := (mkF m 209 #[.val (.long cc), .second, .val (.long ru), .second, .val (.int rs), .val (.long dy), .second, .val (.int yd), .val (.int pl), .val (.int (tA pl rs)), .val (.long (powF N)), .second, .val (.long (1 : Int64)), .second, .val (.long (powF N)), .second, .val (.long (perF ru dy (1 : Int64))), .second, .val (.long (divF yd (powF N))), .second, .val (.long ((perF ru dy (1 : Int64)) / (divF yd (powF N)))), .second, .val (.long ((perF ru dy (1 : Int64)) % (divF yd (powF N)))), .second, .val (.long (cc * ((perF ru dy (1 : Int64)) / (divF yd (powF N))))), .second, .val (.long ((cc * ((perF ru dy (1 : Int64)) % (divF yd (powF N)))) / (divF yd (powF N)))), .second, .val (.long (remF cc ((perF ru dy (1 : Int64)) % (divF yd (powF N))) (divF yd (powF N)))), .second, .val (.long (0 : Int64)), .second] [(.long ((cc * ((perF ru dy (1 : Int64)) % (divF yd (powF N)))) / (divF yd (powF N)))), (.long (cc * ((perF ru dy (1 : Int64)) / (divF yd (powF N)))))])) rfl (by rw [hml]; rfl) (argsL := [(.long (cc * ((perF ru dy (1 : Int64)) / (divF yd (powF N))))), (.long ((cc * ((perF ru dy (1 : Int64)) % (divF yd (powF N)))) / (divF yd (powF N))))]) (rest := []) (lenOf pd_5 rfl) rfl (by show 2 * 0 + _ ≤ _; exact Nat.le_of_eq rfl) (hb hby d3_209) (fun _ _ => ⟨rfl, e47, (by decide : 0 + 0 ≤ _), (by decide : 0 + 0 ≤ _)⟩)
  dsimp only [Pt.U, Pt.locs, Pt.cells, Pt.slots] at X48 l48 y48 z48 st48 hQ48
  subst l48 y48 z48
  obtain ⟨rfl, N48q, e48⟩ := hQ48
  have N48 := Fr.app N47 N48q
  obtain ⟨_, _, ⟨T49, L49, k49, n49⟩, -, X49, ⟨Lc49, hQ49, l49, y49, z49⟩, st49⟩ := Jvm.LawKit.callS X48 hx (y := (⟨"com/example/syndicata/syndicata/Accrual", "sumFits", "(JJ)Z"⟩ : MethodName)) hown (mvT hZ (hw _ (List.mem_of_getElem? (i := 51) rfl))) (mvT hZ (hw _ (List.mem_of_getElem? (i := 52) rfl))) (mvT hZ (hw _ (List.mem_of_getElem? (i := 30) rfl))) (mvT hZ (hw _ (List.mem_of_getElem? (i := 53) rfl))) (by decide) (backOf (W := 0) (rm9 l Z a0 hw [] ((cc * ((perF ru dy (1 : Int64)) / (divF yd (powF N)))) + ((cc * ((perF ru dy (1 : Int64)) % (divF yd (powF N)))) / (divF yd (powF N)))) (0 : Int64) h0 n0 Z0) hZ (hw _ (List.mem_of_getElem? (i := 53) rfl)) (hw _ (List.mem_of_getElem? (i := 30) rfl)) (by decide) (by decide)) (g := (mkF m 222 #[.val (.long cc), .second, .val (.long ru), .second, .val (.int rs), .val (.long dy), .second, .val (.int yd), .val (.int pl), .val (.int (tA pl rs)), .val (.long (powF N)), .second, .val (.long (1 : Int64)), .second, .val (.long (powF N)), .second, .val (.long (perF ru dy (1 : Int64))), .second, .val (.long (divF yd (powF N))), .second, .val (.long ((perF ru dy (1 : Int64)) / (divF yd (powF N)))), .second, .val (.long ((perF ru dy (1 : Int64)) % (divF yd (powF N)))), .second, .val (.long (cc * ((perF ru dy (1 : Int64)) / (divF yd (powF N))))), .second, .val (.long ((cc * ((perF ru dy (1 : Int64)) % (divF yd (powF N)))) / (divF yd (powF N)))), .second, .val (.long (remF cc ((perF ru dy (1 : Int64)) % (divF yd (powF N))) (divF yd (powF N)))), .second, .val (.long (0 : Int64)), .second] [(.long (0 : Int64)), (.long ((cc * ((perF ru dy (1 : Int64)) / (divF yd (powF N)))) + ((cc * ((perF ru dy (1 : Int64)) % (divF yd (powF N)))) / (divF yd (powF N)))))])) rfl (by rw [hml]; rfl) (argsL := [(.long ((cc * ((perF ru dy (1 : Int64)) / (divF yd (powF N)))) + ((cc * ((perF ru dy (1 : Int64)) % (divF yd (powF N)))) / (divF yd (powF N))))), (.long (0 : Int64))]) (rest := []) (lenOf pd_5 rfl) rfl (by show 2 * 0 + _ ≤ _; exact Nat.le_of_eq rfl) (hb hby d3_222) (fun _ _ => ⟨rfl, e48, (by decide : 0 + 0 ≤ _), (by decide : 0 + 0 ≤ _)⟩)
  dsimp only [Pt.U, Pt.locs, Pt.cells, Pt.slots] at X49 l49 y49 z49 st49 hQ49
  subst l49 y49 z49
  obtain ⟨rfl, N49q, e49⟩ := hQ49
  have N49 := Fr.app N48 N49q
  obtain ⟨fs, hr, hrun, hended, hW, hsame⟩ := X49.leave (v := some (.long (sum3 (cc * ((perF ru dy (1 : Int64)) / (divF yd (powF N)))) ((cc * ((perF ru dy (1 : Int64)) % (divF yd (powF N)))) / (divF yd (powF N))) (0 : Int64)))) (fun h => by rw [Bd.returns] at h; cases h)
  refine ⟨_, _, pre0 _ ?_, hrun, hended, _, _, rfl, ?_, ⟨_, rfl⟩, hW, hsame.mono (by decide) (by decide)⟩
  · show Steps p.tables e below (s₁.setTop (mkF m 0 #[.val (.long cc), .second, .val (.long ru), .second, .val (.int rs), .val (.long dy), .second, .val (.int yd), .val (.int pl), .unset, .unset, .unset, .unset, .unset, .unset, .unset, .unset, .unset, .unset, .unset, .unset, .unset, .unset, .unset, .unset, .unset, .unset, .unset, .unset, .unset, .unset, .unset] [])) _
    refine XS.iload X0.here hx rfl (hb hby d3_0) rfl ?_
    refine XS.iconst X0.here hx rfl (hb hby d3_2) ?_
    refine XS.isub X0.here hx rfl (hb hby d3_3) rfl ?_
    refine XS.iload X0.here hx rfl (hb hby d3_4) rfl ?_
    refine XS.isub X0.here hx rfl (hb hby d3_6) rfl ?_
    refine XS.iconst X0.here hx rfl (hb hby d3_7) ?_
    refine XS.isub X0.here hx rfl (hb hby d3_8) rfl ?_
    show Steps p.tables e below (s₁.setTop (mkF m 9 #[.val (.long cc), .second, .val (.long ru), .second, .val (.int rs), .val (.long dy), .second, .val (.int yd), .val (.int pl), .unset, .unset, .unset, .unset, .unset, .unset, .unset, .unset, .unset, .unset, .unset, .unset, .unset, .unset, .unset, .unset, .unset, .unset, .unset, .unset, .unset, .unset, .unset] [(.int (tA pl rs))])) _
    refine XS.istore X0.here hx rfl (hb hby d3_9) rfl (l' := #[.val (.long cc), .second, .val (.long ru), .second, .val (.int rs), .val (.long dy), .second, .val (.int yd), .val (.int pl), .val (.int (tA pl rs)), .unset, .unset, .unset, .unset, .unset, .unset, .unset, .unset, .unset, .unset, .unset, .unset, .unset, .unset, .unset, .unset, .unset, .unset, .unset, .unset, .unset, .unset]) rfl ?_
    refine XS.iload X0.here hx rfl (hb hby d3_11) rfl ?_
    show Steps p.tables e below (s₁.setTop (mkF m 13 #[.val (.long cc), .second, .val (.long ru), .second, .val (.int rs), .val (.long dy), .second, .val (.int yd), .val (.int pl), .val (.int (tA pl rs)), .unset, .unset, .unset, .unset, .unset, .unset, .unset, .unset, .unset, .unset, .unset, .unset, .unset, .unset, .unset, .unset, .unset, .unset, .unset, .unset, .unset, .unset] [(.int (tA pl rs))])) _
    refine st39 _ ?_
    refine XS.bipush X39.here hx rfl (hb hby d3_16) ?_
    refine XS.icmpYes X39.here hx rfl (pc0 := 18) (pc' := 25) rfl (hb hby d3_18) rfl (flt hc18).2.2.2 (by decide) (by decide) ?_
    refine XS.iload X39.here hx rfl (hb hby d3_25) rfl ?_
    show Steps p.tables e below (T39.setTop (mkF m 27 #[.val (.long cc), .second, .val (.long ru), .second, .val (.int rs), .val (.long dy), .second, .val (.int yd), .val (.int pl), .val (.int (tA pl rs)), .unset, .unset, .unset, .unset, .unset, .unset, .unset, .unset, .unset, .unset, .unset, .unset, .unset, .unset, .unset, .unset, .unset, .unset, .unset, .unset, .unset, .unset] [(.int (tA pl rs))])) _
    refine st40 _ ?_
    show Steps p.tables e below (T40.setTop (mkF m 30 #[.val (.long cc), .second, .val (.long ru), .second, .val (.int rs), .val (.long dy), .second, .val (.int yd), .val (.int pl), .val (.int (tA pl rs)), .unset, .unset, .unset, .unset, .unset, .unset, .unset, .unset, .unset, .unset, .unset, .unset, .unset, .unset, .unset, .unset, .unset, .unset, .unset, .unset, .unset, .unset] [(.int (Int32.ofNat N))])) _
    refine st41 _ ?_
    refine XS.lstore X41.here hx rfl (hb hby d3_33) rfl (l' := #[.val (.long cc), .second, .val (.long ru), .second, .val (.int rs), .val (.long dy), .second, .val (.int yd), .val (.int pl), .val (.int (tA pl rs)), .val (.long (powF N)), .second, .unset, .unset, .unset, .unset, .unset, .unset, .unset, .unset, .unset, .unset, .unset, .unset, .unset, .unset, .unset, .unset, .unset, .unset, .unset, .unset]) rfl ?_
    refine XS.iload X41.here hx rfl (hb hby d3_35) rfl ?_
    refine XS.ifYes X41.here hx rfl (pc0 := 37) (pc' := 45) rfl (hb hby d3_37) rfl ((if0 _ _).trans (flt hc37).2.2.2) (by decide) (by decide) ?_
    refine XS.lconst X41.here hx rfl (hb hby d3_45) ?_
    refine XS.lstore X41.here hx rfl (hb hby d3_46) rfl (l' := #[.val (.long cc), .second, .val (.long ru), .second, .val (.int rs), .val (.long dy), .second, .val (.int yd), .val (.int pl), .val (.int (tA pl rs)), .val (.long (powF N)), .second, .val (.long (1 : Int64)), .second, .unset, .unset, .unset, .unset, .unset, .unset, .unset, .unset, .unset, .unset, .unset, .unset, .unset, .unset, .unset, .unset, .unset, .unset]) rfl ?_
    refine XS.iload X41.here hx rfl (hb hby d3_48) rfl ?_
    refine XS.ifYes X41.here hx rfl (pc0 := 50) (pc' := 57) rfl (hb hby d3_50) rfl ((if0 _ _).trans (flt hc50).2.2.2) (by decide) (by decide) ?_
    show Steps p.tables e below (T41.setTop (mkF m 57 #[.val (.long cc), .second, .val (.long ru), .second, .val (.int rs), .val (.long dy), .second, .val (.int yd), .val (.int pl), .val (.int (tA pl rs)), .val (.long (powF N)), .second, .val (.long (1 : Int64)), .second, .unset, .unset, .unset, .unset, .unset, .unset, .unset, .unset, .unset, .unset, .unset, .unset, .unset, .unset, .unset, .unset, .unset, .unset] [])) _
    refine XS.lload X41.here hx rfl (hb hby d3_57) rfl ?_
    refine XS.lstore X41.here hx rfl (hb hby d3_59) rfl (l' := #[.val (.long cc), .second, .val (.long ru), .second, .val (.int rs), .val (.long dy), .second, .val (.int yd), .val (.int pl), .val (.int (tA pl rs)), .val (.long (powF N)), .second, .val (.long (1 : Int64)), .second, .val (.long (powF N)), .second, .unset, .unset, .unset, .unset, .unset, .unset, .unset, .unset, .unset, .unset, .unset, .unset, .unset, .unset, .unset, .unset]) rfl ?_
    refine XS.lloadN X41.here hx rfl (hb hby d3_61) rfl ?_
    refine XS.lload X41.here hx rfl (hb hby d3_62) rfl ?_
    show Steps p.tables e below (T41.setTop (mkF m 64 #[.val (.long cc), .second, .val (.long ru), .second, .val (.int rs), .val (.long dy), .second, .val (.int yd), .val (.int pl), .val (.int (tA pl rs)), .val (.long (powF N)), .second, .val (.long (1 : Int64)), .second, .val (.long (powF N)), .second, .unset, .unset, .unset, .unset, .unset, .unset, .unset, .unset, .unset, .unset, .unset, .unset, .unset, .unset, .unset, .unset] [(.long dy), (.long ru)])) _
    refine st42 _ ?_
    refine XS.ifNo X42.here hx rfl (hb hby d3_67) rfl ((if0 _ _).trans (feq hc67).1) ?_
    refine XS.lloadN X42.here hx rfl (hb hby d3_70) rfl ?_
    refine XS.lload X42.here hx rfl (hb hby d3_71) rfl ?_
    refine XS.lmul X42.here hx rfl (hb hby d3_73) rfl ?_
    refine XS.lload X42.here hx rfl (hb hby d3_74) rfl ?_
    show Steps p.tables e below (T42.setTop (mkF m 76 #[.val (.long cc), .second, .val (.long ru), .second, .val (.int rs), .val (.long dy), .second, .val (.int yd), .val (.int pl), .val (.int (tA pl rs)), .val (.long (powF N)), .second, .val (.long (1 : Int64)), .second, .val (.long (powF N)), .second, .unset, .unset, .unset, .unset, .unset, .unset, .unset, .unset, .unset, .unset, .unset, .unset, .unset, .unset, .unset, .unset] [(.long (1 : Int64)), (.long (ru * dy))])) _
    refine st43 _ ?_
    refine XS.ifNo X43.here hx rfl (hb hby d3_79) rfl ((if0 _ _).trans (feq hc79).1) ?_
    refine XS.iload X43.here hx rfl (hb hby d3_82) rfl ?_
    refine XS.i2l X43.here hx rfl (hb hby d3_84) rfl ?_
    refine XS.lload X43.here hx rfl (hb hby d3_85) rfl ?_
    show Steps p.tables e below (T43.setTop (mkF m 87 #[.val (.long cc), .second, .val (.long ru), .second, .val (.int rs), .val (.long dy), .second, .val (.int yd), .val (.int pl), .val (.int (tA pl rs)), .val (.long (powF N)), .second, .val (.long (1 : Int64)), .second, .val (.long (powF N)), .second, .unset, .unset, .unset, .unset, .unset, .unset, .unset, .unset, .unset, .unset, .unset, .unset, .unset, .unset, .unset, .unset] [(.long (powF N)), (.long (yd.toInt64))])) _
    refine st44 _ ?_
    refine XS.ifYes X44.here hx rfl (pc0 := 90) (pc' := 97) rfl (hb hby d3_90) rfl ((if0 _ _).trans (feq hc90).2) (by decide) (by decide) ?_
    refine XS.lloadN X44.here hx rfl (hb hby d3_97) rfl ?_
    refine XS.lload X44.here hx rfl (hb hby d3_98) rfl ?_
    refine XS.lmul X44.here hx rfl (hb hby d3_100) rfl ?_
    refine XS.lload X44.here hx rfl (hb hby d3_101) rfl ?_
    refine XS.lmul X44.here hx rfl (hb hby d3_103) rfl ?_
    show Steps p.tables e below (T44.setTop (mkF m 104 #[.val (.long cc), .second, .val (.long ru), .second, .val (.int rs), .val (.long dy), .second, .val (.int yd), .val (.int pl), .val (.int (tA pl rs)), .val (.long (powF N)), .second, .val (.long (1 : Int64)), .second, .val (.long (powF N)), .second, .unset, .unset, .unset, .unset, .unset, .unset, .unset, .unset, .unset, .unset, .unset, .unset, .unset, .unset, .unset, .unset] [(.long (perF ru dy (1 : Int64)))])) _
    refine XS.lstore X44.here hx rfl (hb hby d3_104) rfl (l' := #[.val (.long cc), .second, .val (.long ru), .second, .val (.int rs), .val (.long dy), .second, .val (.int yd), .val (.int pl), .val (.int (tA pl rs)), .val (.long (powF N)), .second, .val (.long (1 : Int64)), .second, .val (.long (powF N)), .second, .val (.long (perF ru dy (1 : Int64))), .second, .unset, .unset, .unset, .unset, .unset, .unset, .unset, .unset, .unset, .unset, .unset, .unset, .unset, .unset]) rfl ?_
    refine XS.iload X44.here hx rfl (hb hby d3_106) rfl ?_
    refine XS.i2l X44.here hx rfl (hb hby d3_108) rfl ?_
    refine XS.lload X44.here hx rfl (hb hby d3_109) rfl ?_
    refine XS.lmul X44.here hx rfl (hb hby d3_111) rfl ?_
    show Steps p.tables e below (T44.setTop (mkF m 112 #[.val (.long cc), .second, .val (.long ru), .second, .val (.int rs), .val (.long dy), .second, .val (.int yd), .val (.int pl), .val (.int (tA pl rs)), .val (.long (powF N)), .second, .val (.long (1 : Int64)), .second, .val (.long (powF N)), .second, .val (.long (perF ru dy (1 : Int64))), .second, .unset, .unset, .unset, .unset, .unset, .unset, .unset, .unset, .unset, .unset, .unset, .unset, .unset, .unset] [(.long (divF yd (powF N)))])) _
    refine XS.lstore X44.here hx rfl (hb hby d3_112) rfl (l' := #[.val (.long cc), .second, .val (.long ru), .second, .val (.int rs), .val (.long dy), .second, .val (.int yd), .val (.int pl), .val (.int (tA pl rs)), .val (.long (powF N)), .second, .val (.long (1 : Int64)), .second, .val (.long (powF N)), .second, .val (.long (perF ru dy (1 : Int64))), .second, .val (.long (divF yd (powF N))), .second, .unset, .unset, .unset, .unset, .unset, .unset, .unset, .unset, .unset, .unset, .unset, .unset]) rfl ?_
    refine XS.lload X44.here hx rfl (hb hby d3_114) rfl ?_
    refine XS.lload X44.here hx rfl (hb hby d3_116) rfl ?_
    refine XS.ldiv X44.here hx rfl (hb hby d3_118) rfl hnz118 ?_
    show Steps p.tables e below (T44.setTop (mkF m 119 #[.val (.long cc), .second, .val (.long ru), .second, .val (.int rs), .val (.long dy), .second, .val (.int yd), .val (.int pl), .val (.int (tA pl rs)), .val (.long (powF N)), .second, .val (.long (1 : Int64)), .second, .val (.long (powF N)), .second, .val (.long (perF ru dy (1 : Int64))), .second, .val (.long (divF yd (powF N))), .second, .unset, .unset, .unset, .unset, .unset, .unset, .unset, .unset, .unset, .unset, .unset, .unset] [(.long ((perF ru dy (1 : Int64)) / (divF yd (powF N))))])) _
    refine XS.lstore X44.here hx rfl (hb hby d3_119) rfl (l' := #[.val (.long cc), .second, .val (.long ru), .second, .val (.int rs), .val (.long dy), .second, .val (.int yd), .val (.int pl), .val (.int (tA pl rs)), .val (.long (powF N)), .second, .val (.long (1 : Int64)), .second, .val (.long (powF N)), .second, .val (.long (perF ru dy (1 : Int64))), .second, .val (.long (divF yd (powF N))), .second, .val (.long ((perF ru dy (1 : Int64)) / (divF yd (powF N)))), .second, .unset, .unset, .unset, .unset, .unset, .unset, .unset, .unset, .unset, .unset]) rfl ?_
    refine XS.lload X44.here hx rfl (hb hby d3_121) rfl ?_
    refine XS.lload X44.here hx rfl (hb hby d3_123) rfl ?_
    refine gwLrem X44.here hx rfl (hb hby d3_125) rfl hnz125 ?_
    show Steps p.tables e below (T44.setTop (mkF m 126 #[.val (.long cc), .second, .val (.long ru), .second, .val (.int rs), .val (.long dy), .second, .val (.int yd), .val (.int pl), .val (.int (tA pl rs)), .val (.long (powF N)), .second, .val (.long (1 : Int64)), .second, .val (.long (powF N)), .second, .val (.long (perF ru dy (1 : Int64))), .second, .val (.long (divF yd (powF N))), .second, .val (.long ((perF ru dy (1 : Int64)) / (divF yd (powF N)))), .second, .unset, .unset, .unset, .unset, .unset, .unset, .unset, .unset, .unset, .unset] [(.long ((perF ru dy (1 : Int64)) % (divF yd (powF N))))])) _
    refine XS.lstore X44.here hx rfl (hb hby d3_126) rfl (l' := #[.val (.long cc), .second, .val (.long ru), .second, .val (.int rs), .val (.long dy), .second, .val (.int yd), .val (.int pl), .val (.int (tA pl rs)), .val (.long (powF N)), .second, .val (.long (1 : Int64)), .second, .val (.long (powF N)), .second, .val (.long (perF ru dy (1 : Int64))), .second, .val (.long (divF yd (powF N))), .second, .val (.long ((perF ru dy (1 : Int64)) / (divF yd (powF N)))), .second, .val (.long ((perF ru dy (1 : Int64)) % (divF yd (powF N)))), .second, .unset, .unset, .unset, .unset, .unset, .unset, .unset, .unset]) rfl ?_
    refine XS.lloadN X44.here hx rfl (hb hby d3_128) rfl ?_
    refine XS.lload X44.here hx rfl (hb hby d3_129) rfl ?_
    show Steps p.tables e below (T44.setTop (mkF m 131 #[.val (.long cc), .second, .val (.long ru), .second, .val (.int rs), .val (.long dy), .second, .val (.int yd), .val (.int pl), .val (.int (tA pl rs)), .val (.long (powF N)), .second, .val (.long (1 : Int64)), .second, .val (.long (powF N)), .second, .val (.long (perF ru dy (1 : Int64))), .second, .val (.long (divF yd (powF N))), .second, .val (.long ((perF ru dy (1 : Int64)) / (divF yd (powF N)))), .second, .val (.long ((perF ru dy (1 : Int64)) % (divF yd (powF N)))), .second, .unset, .unset, .unset, .unset, .unset, .unset, .unset, .unset] [(.long ((perF ru dy (1 : Int64)) / (divF yd (powF N)))), (.long cc)])) _
    refine st45 _ ?_
    refine XS.ifNo X45.here hx rfl (hb hby d3_134) rfl ((if0 _ _).trans (feq hc134).1) ?_
    refine XS.lloadN X45.here hx rfl (hb hby d3_137) rfl ?_
    refine XS.lload X45.here hx rfl (hb hby d3_138) rfl ?_
    show Steps p.tables e below (T45.setTop (mkF m 140 #[.val (.long cc), .second, .val (.long ru), .second, .val (.int rs), .val (.long dy), .second, .val (.int yd), .val (.int pl), .val (.int (tA pl rs)), .val (.long (powF N)), .second, .val (.long (1 : Int64)), .second, .val (.long (powF N)), .second, .val (.long (perF ru dy (1 : Int64))), .second, .val (.long (divF yd (powF N))), .second, .val (.long ((perF ru dy (1 : Int64)) / (divF yd (powF N)))), .second, .val (.long ((perF ru dy (1 : Int64)) % (divF yd (powF N)))), .second, .unset, .unset, .unset, .unset, .unset, .unset, .unset, .unset] [(.long ((perF ru dy (1 : Int64)) % (divF yd (powF N)))), (.long cc)])) _
    refine st46 _ ?_
    refine XS.ifYes X46.here hx rfl (pc0 := 143) (pc' := 150) rfl (hb hby d3_143) rfl ((if0 _ _).trans (feq hc143).2) (by decide) (by decide) ?_
    refine XS.lloadN X46.here hx rfl (hb hby d3_150) rfl ?_
    refine XS.lload X46.here hx rfl (hb hby d3_151) rfl ?_
    refine XS.lmul X46.here hx rfl (hb hby d3_153) rfl ?_
    refine XS.lstore X46.here hx rfl (hb hby d3_154) rfl (l' := #[.val (.long cc), .second, .val (.long ru), .second, .val (.int rs), .val (.long dy), .second, .val (.int yd), .val (.int pl), .val (.int (tA pl rs)), .val (.long (powF N)), .second, .val (.long (1 : Int64)), .second, .val (.long (powF N)), .second, .val (.long (perF ru dy (1 : Int64))), .second, .val (.long (divF yd (powF N))), .second, .val (.long ((perF ru dy (1 : Int64)) / (divF yd (powF N)))), .second, .val (.long ((perF ru dy (1 : Int64)) % (divF yd (powF N)))), .second, .val (.long (cc * ((perF ru dy (1 : Int64)) / (divF yd (powF N))))), .second, .unset, .unset, .unset, .unset, .unset, .unset]) rfl ?_
    refine XS.lloadN X46.here hx rfl (hb hby d3_156) rfl ?_
    refine XS.lload X46.here hx rfl (hb hby d3_157) rfl ?_
    show Steps p.tables e below (T46.setTop (mkF m 159 #[.val (.long cc), .second, .val (.long ru), .second, .val (.int rs), .val (.long dy), .second, .val (.int yd), .val (.int pl), .val (.int (tA pl rs)), .val (.long (powF N)), .second, .val (.long (1 : Int64)), .second, .val (.long (powF N)), .second, .val (.long (perF ru dy (1 : Int64))), .second, .val (.long (divF yd (powF N))), .second, .val (.long ((perF ru dy (1 : Int64)) / (divF yd (powF N)))), .second, .val (.long ((perF ru dy (1 : Int64)) % (divF yd (powF N)))), .second, .val (.long (cc * ((perF ru dy (1 : Int64)) / (divF yd (powF N))))), .second, .unset, .unset, .unset, .unset, .unset, .unset] [(.long ((perF ru dy (1 : Int64)) % (divF yd (powF N)))), (.long cc)])) _
    refine XS.lmul X46.here hx rfl (hb hby d3_159) rfl ?_
    refine XS.lload X46.here hx rfl (hb hby d3_160) rfl ?_
    refine XS.ldiv X46.here hx rfl (hb hby d3_162) rfl hnz162 ?_
    refine XS.lstore X46.here hx rfl (hb hby d3_163) rfl (l' := #[.val (.long cc), .second, .val (.long ru), .second, .val (.int rs), .val (.long dy), .second, .val (.int yd), .val (.int pl), .val (.int (tA pl rs)), .val (.long (powF N)), .second, .val (.long (1 : Int64)), .second, .val (.long (powF N)), .second, .val (.long (perF ru dy (1 : Int64))), .second, .val (.long (divF yd (powF N))), .second, .val (.long ((perF ru dy (1 : Int64)) / (divF yd (powF N)))), .second, .val (.long ((perF ru dy (1 : Int64)) % (divF yd (powF N)))), .second, .val (.long (cc * ((perF ru dy (1 : Int64)) / (divF yd (powF N))))), .second, .val (.long ((cc * ((perF ru dy (1 : Int64)) % (divF yd (powF N)))) / (divF yd (powF N)))), .second, .unset, .unset, .unset, .unset]) rfl ?_
    refine XS.lloadN X46.here hx rfl (hb hby d3_165) rfl ?_
    refine XS.lload X46.here hx rfl (hb hby d3_166) rfl ?_
    refine XS.lmul X46.here hx rfl (hb hby d3_168) rfl ?_
    refine XS.lload X46.here hx rfl (hb hby d3_169) rfl ?_
    show Steps p.tables e below (T46.setTop (mkF m 171 #[.val (.long cc), .second, .val (.long ru), .second, .val (.int rs), .val (.long dy), .second, .val (.int yd), .val (.int pl), .val (.int (tA pl rs)), .val (.long (powF N)), .second, .val (.long (1 : Int64)), .second, .val (.long (powF N)), .second, .val (.long (perF ru dy (1 : Int64))), .second, .val (.long (divF yd (powF N))), .second, .val (.long ((perF ru dy (1 : Int64)) / (divF yd (powF N)))), .second, .val (.long ((perF ru dy (1 : Int64)) % (divF yd (powF N)))), .second, .val (.long (cc * ((perF ru dy (1 : Int64)) / (divF yd (powF N))))), .second, .val (.long ((cc * ((perF ru dy (1 : Int64)) % (divF yd (powF N)))) / (divF yd (powF N)))), .second, .unset, .unset, .unset, .unset] [(.long (divF yd (powF N))), (.long (cc * ((perF ru dy (1 : Int64)) % (divF yd (powF N)))))])) _
    refine gwLrem X46.here hx rfl (hb hby d3_171) rfl hnz171 ?_
    show Steps p.tables e below (T46.setTop (mkF m 172 #[.val (.long cc), .second, .val (.long ru), .second, .val (.int rs), .val (.long dy), .second, .val (.int yd), .val (.int pl), .val (.int (tA pl rs)), .val (.long (powF N)), .second, .val (.long (1 : Int64)), .second, .val (.long (powF N)), .second, .val (.long (perF ru dy (1 : Int64))), .second, .val (.long (divF yd (powF N))), .second, .val (.long ((perF ru dy (1 : Int64)) / (divF yd (powF N)))), .second, .val (.long ((perF ru dy (1 : Int64)) % (divF yd (powF N)))), .second, .val (.long (cc * ((perF ru dy (1 : Int64)) / (divF yd (powF N))))), .second, .val (.long ((cc * ((perF ru dy (1 : Int64)) % (divF yd (powF N)))) / (divF yd (powF N)))), .second, .unset, .unset, .unset, .unset] [(.long ((cc * ((perF ru dy (1 : Int64)) % (divF yd (powF N)))) % (divF yd (powF N))))])) _
    refine st47 _ ?_
    show Steps p.tables e below (T47.setTop (mkF m 175 #[.val (.long cc), .second, .val (.long ru), .second, .val (.int rs), .val (.long dy), .second, .val (.int yd), .val (.int pl), .val (.int (tA pl rs)), .val (.long (powF N)), .second, .val (.long (1 : Int64)), .second, .val (.long (powF N)), .second, .val (.long (perF ru dy (1 : Int64))), .second, .val (.long (divF yd (powF N))), .second, .val (.long ((perF ru dy (1 : Int64)) / (divF yd (powF N)))), .second, .val (.long ((perF ru dy (1 : Int64)) % (divF yd (powF N)))), .second, .val (.long (cc * ((perF ru dy (1 : Int64)) / (divF yd (powF N))))), .second, .val (.long ((cc * ((perF ru dy (1 : Int64)) % (divF yd (powF N)))) / (divF yd (powF N)))), .second, .unset, .unset, .unset, .unset] [(.long (remF cc ((perF ru dy (1 : Int64)) % (divF yd (powF N))) (divF yd (powF N))))])) _
    refine XS.lstore X47.here hx rfl (hb hby d3_175) rfl (l' := #[.val (.long cc), .second, .val (.long ru), .second, .val (.int rs), .val (.long dy), .second, .val (.int yd), .val (.int pl), .val (.int (tA pl rs)), .val (.long (powF N)), .second, .val (.long (1 : Int64)), .second, .val (.long (powF N)), .second, .val (.long (perF ru dy (1 : Int64))), .second, .val (.long (divF yd (powF N))), .second, .val (.long ((perF ru dy (1 : Int64)) / (divF yd (powF N)))), .second, .val (.long ((perF ru dy (1 : Int64)) % (divF yd (powF N)))), .second, .val (.long (cc * ((perF ru dy (1 : Int64)) / (divF yd (powF N))))), .second, .val (.long ((cc * ((perF ru dy (1 : Int64)) % (divF yd (powF N)))) / (divF yd (powF N)))), .second, .val (.long (remF cc ((perF ru dy (1 : Int64)) % (divF yd (powF N))) (divF yd (powF N)))), .second, .unset, .unset]) rfl ?_
    refine XS.lload X47.here hx rfl (hb hby d3_177) rfl ?_
    refine XS.lload X47.here hx rfl (hb hby d3_179) rfl ?_
    refine XS.lload X47.here hx rfl (hb hby d3_181) rfl ?_
    refine XS.lsub X47.here hx rfl (hb hby d3_183) rfl ?_
    refine XS.lcmp X47.here hx rfl (hb hby d3_184) rfl ?_
    refine XS.ifYes X47.here hx rfl (pc0 := 185) (pc' := 202) rfl (hb hby d3_185) rfl ((if0 _ _).trans (tlt hc185).1) (by decide) (by decide) ?_
    refine XS.lconst X47.here hx rfl (hb hby d3_202) ?_
    show Steps p.tables e below (T47.setTop (mkF m 203 #[.val (.long cc), .second, .val (.long ru), .second, .val (.int rs), .val (.long dy), .second, .val (.int yd), .val (.int pl), .val (.int (tA pl rs)), .val (.long (powF N)), .second, .val (.long (1 : Int64)), .second, .val (.long (powF N)), .second, .val (.long (perF ru dy (1 : Int64))), .second, .val (.long (divF yd (powF N))), .second, .val (.long ((perF ru dy (1 : Int64)) / (divF yd (powF N)))), .second, .val (.long ((perF ru dy (1 : Int64)) % (divF yd (powF N)))), .second, .val (.long (cc * ((perF ru dy (1 : Int64)) / (divF yd (powF N))))), .second, .val (.long ((cc * ((perF ru dy (1 : Int64)) % (divF yd (powF N)))) / (divF yd (powF N)))), .second, .val (.long (remF cc ((perF ru dy (1 : Int64)) % (divF yd (powF N))) (divF yd (powF N)))), .second, .unset, .unset] [(.long (0 : Int64))])) _
    refine XS.lstore X47.here hx rfl (hb hby d3_203) rfl (l' := #[.val (.long cc), .second, .val (.long ru), .second, .val (.int rs), .val (.long dy), .second, .val (.int yd), .val (.int pl), .val (.int (tA pl rs)), .val (.long (powF N)), .second, .val (.long (1 : Int64)), .second, .val (.long (powF N)), .second, .val (.long (perF ru dy (1 : Int64))), .second, .val (.long (divF yd (powF N))), .second, .val (.long ((perF ru dy (1 : Int64)) / (divF yd (powF N)))), .second, .val (.long ((perF ru dy (1 : Int64)) % (divF yd (powF N)))), .second, .val (.long (cc * ((perF ru dy (1 : Int64)) / (divF yd (powF N))))), .second, .val (.long ((cc * ((perF ru dy (1 : Int64)) % (divF yd (powF N)))) / (divF yd (powF N)))), .second, .val (.long (remF cc ((perF ru dy (1 : Int64)) % (divF yd (powF N))) (divF yd (powF N)))), .second, .val (.long (0 : Int64)), .second]) rfl ?_
    refine XS.lload X47.here hx rfl (hb hby d3_205) rfl ?_
    refine XS.lload X47.here hx rfl (hb hby d3_207) rfl ?_
    show Steps p.tables e below (T47.setTop (mkF m 209 #[.val (.long cc), .second, .val (.long ru), .second, .val (.int rs), .val (.long dy), .second, .val (.int yd), .val (.int pl), .val (.int (tA pl rs)), .val (.long (powF N)), .second, .val (.long (1 : Int64)), .second, .val (.long (powF N)), .second, .val (.long (perF ru dy (1 : Int64))), .second, .val (.long (divF yd (powF N))), .second, .val (.long ((perF ru dy (1 : Int64)) / (divF yd (powF N)))), .second, .val (.long ((perF ru dy (1 : Int64)) % (divF yd (powF N)))), .second, .val (.long (cc * ((perF ru dy (1 : Int64)) / (divF yd (powF N))))), .second, .val (.long ((cc * ((perF ru dy (1 : Int64)) % (divF yd (powF N)))) / (divF yd (powF N)))), .second, .val (.long (remF cc ((perF ru dy (1 : Int64)) % (divF yd (powF N))) (divF yd (powF N)))), .second, .val (.long (0 : Int64)), .second] [(.long ((cc * ((perF ru dy (1 : Int64)) % (divF yd (powF N)))) / (divF yd (powF N)))), (.long (cc * ((perF ru dy (1 : Int64)) / (divF yd (powF N)))))])) _
    refine st48 _ ?_
    refine XS.ifNo X48.here hx rfl (hb hby d3_212) rfl ((if0 _ _).trans (feq hc212).1) ?_
    refine XS.lload X48.here hx rfl (hb hby d3_215) rfl ?_
    refine XS.lload X48.here hx rfl (hb hby d3_217) rfl ?_
    refine XS.ladd X48.here hx rfl (hb hby d3_219) rfl ?_
    refine XS.lload X48.here hx rfl (hb hby d3_220) rfl ?_
    show Steps p.tables e below (T48.setTop (mkF m 222 #[.val (.long cc), .second, .val (.long ru), .second, .val (.int rs), .val (.long dy), .second, .val (.int yd), .val (.int pl), .val (.int (tA pl rs)), .val (.long (powF N)), .second, .val (.long (1 : Int64)), .second, .val (.long (powF N)), .second, .val (.long (perF ru dy (1 : Int64))), .second, .val (.long (divF yd (powF N))), .second, .val (.long ((perF ru dy (1 : Int64)) / (divF yd (powF N)))), .second, .val (.long ((perF ru dy (1 : Int64)) % (divF yd (powF N)))), .second, .val (.long (cc * ((perF ru dy (1 : Int64)) / (divF yd (powF N))))), .second, .val (.long ((cc * ((perF ru dy (1 : Int64)) % (divF yd (powF N)))) / (divF yd (powF N)))), .second, .val (.long (remF cc ((perF ru dy (1 : Int64)) % (divF yd (powF N))) (divF yd (powF N)))), .second, .val (.long (0 : Int64)), .second] [(.long (0 : Int64)), (.long ((cc * ((perF ru dy (1 : Int64)) / (divF yd (powF N)))) + ((cc * ((perF ru dy (1 : Int64)) % (divF yd (powF N)))) / (divF yd (powF N)))))])) _
    refine st49 _ ?_
    refine XS.ifYes X49.here hx rfl (pc0 := 225) (pc' := 232) rfl (hb hby d3_225) rfl ((if0 _ _).trans (feq hc225).2) (by decide) (by decide) ?_
    refine XS.lload X49.here hx rfl (hb hby d3_232) rfl ?_
    refine XS.lload X49.here hx rfl (hb hby d3_234) rfl ?_
    refine XS.ladd X49.here hx rfl (hb hby d3_236) rfl ?_
    refine XS.lload X49.here hx rfl (hb hby d3_237) rfl ?_
    refine XS.ladd X49.here hx rfl (hb hby d3_239) rfl ?_
    show Steps p.tables e below (T49.setTop (mkF m 240 #[.val (.long cc), .second, .val (.long ru), .second, .val (.int rs), .val (.long dy), .second, .val (.int yd), .val (.int pl), .val (.int (tA pl rs)), .val (.long (powF N)), .second, .val (.long (1 : Int64)), .second, .val (.long (powF N)), .second, .val (.long (perF ru dy (1 : Int64))), .second, .val (.long (divF yd (powF N))), .second, .val (.long ((perF ru dy (1 : Int64)) / (divF yd (powF N)))), .second, .val (.long ((perF ru dy (1 : Int64)) % (divF yd (powF N)))), .second, .val (.long (cc * ((perF ru dy (1 : Int64)) / (divF yd (powF N))))), .second, .val (.long ((cc * ((perF ru dy (1 : Int64)) % (divF yd (powF N)))) / (divF yd (powF N)))), .second, .val (.long (remF cc ((perF ru dy (1 : Int64)) % (divF yd (powF N))) (divF yd (powF N)))), .second, .val (.long (0 : Int64)), .second] [(.long (sum3 (cc * ((perF ru dy (1 : Int64)) / (divF yd (powF N)))) ((cc * ((perF ru dy (1 : Int64)) % (divF yd (powF N)))) / (divF yd (powF N))) (0 : Int64)))])) _
    jvm_step X49.here [X49.here.top, hx, (hb hby d3_240), X49.method', Bd.returns, narrow]
    first | (intro acts; rw [hr _ acts rfl rfl rfl]) | rw [hr _ _ rfl rfl rfl]
    exact Steps.refl _
  · show QJ (sum3 (cc * ((perF ru dy (1 : Int64)) / (divF yd (powF N)))) ((cc * ((perF ru dy (1 : Int64)) % (divF yd (powF N)))) / (divF yd (powF N))) (0 : Int64)) h0 n0 _ T49.heap _
    rw [e49]
    exact ⟨rfl, N49, rfl⟩
set_option maxRecDepth 65536 in
set_option maxHeartbeats 40000000 in
theorem rm3_N1 (l : Launch) (Z : State) (a0 : Array Value) (hw : ∀ d ∈ tables_1, d.before a0 Z = true) (ws : List Jvm.Cond) (cc : Int64) (ru : Int64) (rs : Int32) (dy : Int64) (yd : Int32) (pl : Int32) (N : Nat) (h0 : Heap) (n0 : Nat) (Z0 : n0 ≤ h0.size) (hN : absI (tA pl rs) = Int32.ofNat N) (hN1 : N < 100) (hc18 : ¬ ((18 : Int32) < (absI (tA pl rs)))) (hc37 : ¬ ((0 : Int32) < (tA pl rs))) (hc50 : ¬ ((0 : Int32) < (tA pl rs))) (hc67 : ¬ ((proF ru dy) = (0 : Int32))) (hc79 : ¬ ((proF (ru * dy) (1 : Int64)) = (0 : Int32))) (hc90 : ¬ ((proF (yd.toInt64) (powF N)) = (0 : Int32))) (hnz118 : ¬ ((divF yd (powF N)) = (0 : Int64))) (hnz125 : ¬ ((divF yd (powF N)) = (0 : Int64))) (hc134 : ¬ ((proF cc ((perF ru dy (1 : Int64)) / (divF yd (powF N)))) = (0 : Int32))) (hc143 : ¬ ((proF cc ((perF ru dy (1 : Int64)) % (divF yd (powF N)))) = (0 : Int32))) (hnz162 : ¬ ((divF yd (powF N)) = (0 : Int64))) (hnz171 : ¬ ((divF yd (powF N)) = (0 : Int64))) (hc185 : ¬ ((lcmpW (remF cc ((perF ru dy (1 : Int64)) % (divF yd (powF N))) (divF yd (powF N))) ((divF yd (powF N)) - (remF cc ((perF ru dy (1 : Int64)) % (divF yd (powF N))) (divF yd (powF N))))) < (0 : Int32))) (hc212 : ¬ ((sumF (cc * ((perF ru dy (1 : Int64)) / (divF yd (powF N)))) ((cc * ((perF ru dy (1 : Int64)) % (divF yd (powF N)))) / (divF yd (powF N)))) = (0 : Int32))) (hc225 : ¬ ((sumF ((cc * ((perF ru dy (1 : Int64)) / (divF yd (powF N)))) + ((cc * ((perF ru dy (1 : Int64)) % (divF yd (powF N)))) / (divF yd (powF N)))) (rupF cc (perF ru dy (1 : Int64)))) = (0 : Int32))) :
    MetFree l (⟨"com/example/syndicata/syndicata/Accrual", "accruedUnits", "(JJIJII)J"⟩ : MethodName) (head1 (Jvm.Cond.code (⟨"com/example/syndicata/syndicata/Accrual", "accruedUnits", "(JJIJII)J"⟩ : MethodName) prog_1_method_9_code 32 (some .long) :: ws) ({ frames := 2, cells := 0, slots := 0, locals := 46 } : Room)) (fun aa U => aa = #[(.long cc), (.long ru), (.int rs), (.long dy), (.int yd), (.int pl)] ∧ Z.Warmed39 U.vm ∧ U.heap = h0) (fun _ _ _ _ _ => True) (fun _ U o U' => ∃ v L, o = .returned v ∧ QJ (sum3 (cc * ((perF ru dy (1 : Int64)) / (divF yd (powF N)))) ((cc * ((perF ru dy (1 : Int64)) % (divF yd (powF N)))) / (divF yd (powF N))) (rupF cc (perF ru dy (1 : Int64)))) h0 n0 v U'.heap L ∧ FrameEnd U o U' L ({ frames := 2, cells := 0, slots := 0, locals := 46 } : Room).cells ({ frames := 2, cells := 0, slots := 0, locals := 46 } : Room).slots) := by
  refine MetFree.of_bodySF (plainFor_of_name pn_3) hisR ?_
  intro p e s m args below meth c s₁ Bd hml0 hP hK
  obtain ⟨rfl, hZ, hh⟩ := hP
  have hx := Bd.exec
  have hby := Bd.bytes
  have hml : c.maxLocals = 32 := hml0
  have hown : s.vm.findClass "com/example/syndicata/syndicata/Accrual" = some m.cls := findClass_of_methodNamed Bd.named
  have hnm := (name_of_methodNamed Bd.named Bd.method).1
  have X0 : Stand p l e ({ frames := 2, cells := 0, slots := 0, locals := 46 } : Room) s m #[(.long cc), (.long ru), (.int rs), (.long dy), (.int yd), (.int pl)] below meth c s₁ [] 0 0 := Stand.of_body Bd
  have e0 : s₁.heap = h0 := by rw [← hh, Bd.state]; rfl
  have N0 := Fr.nil n0
  have pre0 : ∀ zz, Steps p.tables e below (s₁.setTop (mkF m 0 #[.val (.long cc), .second, .val (.long ru), .second, .val (.int rs), .val (.long dy), .second, .val (.int yd), .val (.int pl), .unset, .unset, .unset, .unset, .unset, .unset, .unset, .unset, .unset, .unset, .unset, .unset, .unset, .unset, .unset, .unset, .unset, .unset, .unset, .unset, .unset, .unset, .unset] [])) zz → Steps p.tables e below (s₁.setTop (entryFrame m #[(.long cc), (.long ru), (.int rs), (.long dy), (.int yd), (.int pl)] 32)) zz := fun zz k => castTop (ef_3 m cc ru rs dy yd pl) k
  obtain ⟨_, _, ⟨T50, L50, k50, n50⟩, -, X50, ⟨Lc50, hQ50, l50, y50, z50⟩, st50⟩ := Jvm.LawKit.callS X0 hx (y := (⟨"java/lang/Math", "abs", "(I)I"⟩ : MethodName)) hown (mvT hZ (hw _ (List.mem_of_getElem? (i := 32) rfl))) (mvT hZ (hw _ (List.mem_of_getElem? (i := 33) rfl))) (mvT hZ (hw _ (List.mem_of_getElem? (i := 23) rfl))) (mvT hZ (hw _ (List.mem_of_getElem? (i := 34) rfl))) (by decide) (backOf (W := 0) (rm4 l Z a0 hw [] (tA pl rs) h0 n0 Z0) hZ (hw _ (List.mem_of_getElem? (i := 34) rfl)) (hw _ (List.mem_of_getElem? (i := 23) rfl)) (by decide) (by decide)) (g := (mkF m 13 #[.val (.long cc), .second, .val (.long ru), .second, .val (.int rs), .val (.long dy), .second, .val (.int yd), .val (.int pl), .val (.int (tA pl rs)), .unset, .unset, .unset, .unset, .unset, .unset, .unset, .unset, .unset, .unset, .unset, .unset, .unset, .unset, .unset, .unset, .unset, .unset, .unset, .unset, .unset, .unset] [(.int (tA pl rs))])) rfl (by rw [hml]; rfl) (argsL := [(.int (tA pl rs))]) (rest := []) (lenOf pd_3 rfl) rfl (by show 2 * 0 + _ ≤ _; exact Nat.le_of_eq rfl) (hb hby d3_13) (fun _ _ => ⟨rfl, e0, (by decide : 0 + 0 ≤ _), (by decide : 0 + 0 ≤ _)⟩)
  dsimp only [Pt.U, Pt.locs, Pt.cells, Pt.slots] at X50 l50 y50 z50 st50 hQ50
  subst l50 y50 z50
  obtain ⟨rfl, N50q, e50⟩ := hQ50
  have N50 := Fr.app N0 N50q
  obtain ⟨_, _, ⟨T51, L51, k51, n51⟩, -, X51, ⟨Lc51, hQ51, l51, y51, z51⟩, st51⟩ := Jvm.LawKit.callS X50 hx (y := (⟨"java/lang/Math", "abs", "(I)I"⟩ : MethodName)) hown (mvT hZ (hw _ (List.mem_of_getElem? (i := 32) rfl))) (mvT hZ (hw _ (List.mem_of_getElem? (i := 33) rfl))) (mvT hZ (hw _ (List.mem_of_getElem? (i := 23) rfl))) (mvT hZ (hw _ (List.mem_of_getElem? (i := 34) rfl))) (by decide) (backOf (W := 0) (rm4 l Z a0 hw [] (tA pl rs) h0 n0 Z0) hZ (hw _ (List.mem_of_getElem? (i := 34) rfl)) (hw _ (List.mem_of_getElem? (i := 23) rfl)) (by decide) (by decide)) (g := (mkF m 27 #[.val (.long cc), .second, .val (.long ru), .second, .val (.int rs), .val (.long dy), .second, .val (.int yd), .val (.int pl), .val (.int (tA pl rs)), .unset, .unset, .unset, .unset, .unset, .unset, .unset, .unset, .unset, .unset, .unset, .unset, .unset, .unset, .unset, .unset, .unset, .unset, .unset, .unset, .unset, .unset] [(.int (tA pl rs))])) rfl (by rw [hml]; rfl) (argsL := [(.int (tA pl rs))]) (rest := []) (lenOf pd_3 rfl) rfl (by show 2 * 0 + _ ≤ _; exact Nat.le_of_eq rfl) (hb hby d3_27) (fun _ _ => ⟨rfl, e50, (by decide : 0 + 0 ≤ _), (by decide : 0 + 0 ≤ _)⟩)
  dsimp only [Pt.U, Pt.locs, Pt.cells, Pt.slots] at X51 l51 y51 z51 st51 hQ51
  subst l51 y51 z51
  obtain ⟨rfl, N51q, e51⟩ := hQ51
  have N51 := Fr.app N50 N51q
  rw [hN] at st51
  obtain ⟨_, _, ⟨T52, L52, k52, n52⟩, -, X52, ⟨Lc52, hQ52, l52, y52, z52⟩, st52⟩ := Jvm.LawKit.callS X51 hx (y := (⟨"com/example/syndicata/syndicata/Accrual", "powerOfTen", "(I)J"⟩ : MethodName)) hown (mvT hZ (hw _ (List.mem_of_getElem? (i := 35) rfl))) (mvT hZ (hw _ (List.mem_of_getElem? (i := 36) rfl))) (mvT hZ (hw _ (List.mem_of_getElem? (i := 30) rfl))) (mvT hZ (hw _ (List.mem_of_getElem? (i := 37) rfl))) (by decide) (backOf (W := 0) (rm5 l Z a0 hw [] N h0 n0 Z0 hN1) hZ (hw _ (List.mem_of_getElem? (i := 37) rfl)) (hw _ (List.mem_of_getElem? (i := 30) rfl)) (by decide) (by decide)) (g := (mkF m 30 #[.val (.long cc), .second, .val (.long ru), .second, .val (.int rs), .val (.long dy), .second, .val (.int yd), .val (.int pl), .val (.int (tA pl rs)), .unset, .unset, .unset, .unset, .unset, .unset, .unset, .unset, .unset, .unset, .unset, .unset, .unset, .unset, .unset, .unset, .unset, .unset, .unset, .unset, .unset, .unset] [(.int (Int32.ofNat N))])) rfl (by rw [hml]; rfl) (argsL := [(.int (Int32.ofNat N))]) (rest := []) (lenOf pd_4 rfl) rfl (by show 2 * 0 + _ ≤ _; exact Nat.le_of_eq rfl) (hb hby d3_30) (fun _ _ => ⟨rfl, e51, (by decide : 0 + 0 ≤ _), (by decide : 0 + 0 ≤ _)⟩)
  dsimp only [Pt.U, Pt.locs, Pt.cells, Pt.slots] at X52 l52 y52 z52 st52 hQ52
  subst l52 y52 z52
  obtain ⟨rfl, N52q, e52⟩ := hQ52
  have N52 := Fr.app N51 N52q
  obtain ⟨_, _, ⟨T53, L53, k53, n53⟩, -, X53, ⟨Lc53, hQ53, l53, y53, z53⟩, st53⟩ := Jvm.LawKit.callS X52 hx (y := (⟨"com/example/syndicata/syndicata/Accrual", "productFits", "(JJ)Z"⟩ : MethodName)) hown (mvT hZ (hw _ (List.mem_of_getElem? (i := 39) rfl))) (mvT hZ (hw _ (List.mem_of_getElem? (i := 40) rfl))) (mvT hZ (hw _ (List.mem_of_getElem? (i := 30) rfl))) (mvT hZ (hw _ (List.mem_of_getElem? (i := 41) rfl))) (by decide) (backOf (W := 0) (rm6 l Z a0 hw [] ru dy h0 n0 Z0) hZ (hw _ (List.mem_of_getElem? (i := 41) rfl)) (hw _ (List.mem_of_getElem? (i := 30) rfl)) (by decide) (by decide)) (g := (mkF m 64 #[.val (.long cc), .second, .val (.long ru), .second, .val (.int rs), .val (.long dy), .second, .val (.int yd), .val (.int pl), .val (.int (tA pl rs)), .val (.long (powF N)), .second, .val (.long (1 : Int64)), .second, .val (.long (powF N)), .second, .unset, .unset, .unset, .unset, .unset, .unset, .unset, .unset, .unset, .unset, .unset, .unset, .unset, .unset, .unset, .unset] [(.long dy), (.long ru)])) rfl (by rw [hml]; rfl) (argsL := [(.long ru), (.long dy)]) (rest := []) (lenOf pd_5 rfl) rfl (by show 2 * 0 + _ ≤ _; exact Nat.le_of_eq rfl) (hb hby d3_64) (fun _ _ => ⟨rfl, e52, (by decide : 0 + 0 ≤ _), (by decide : 0 + 0 ≤ _)⟩)
  dsimp only [Pt.U, Pt.locs, Pt.cells, Pt.slots] at X53 l53 y53 z53 st53 hQ53
  subst l53 y53 z53
  obtain ⟨rfl, N53q, e53⟩ := hQ53
  have N53 := Fr.app N52 N53q
  obtain ⟨_, _, ⟨T54, L54, k54, n54⟩, -, X54, ⟨Lc54, hQ54, l54, y54, z54⟩, st54⟩ := Jvm.LawKit.callS X53 hx (y := (⟨"com/example/syndicata/syndicata/Accrual", "productFits", "(JJ)Z"⟩ : MethodName)) hown (mvT hZ (hw _ (List.mem_of_getElem? (i := 39) rfl))) (mvT hZ (hw _ (List.mem_of_getElem? (i := 40) rfl))) (mvT hZ (hw _ (List.mem_of_getElem? (i := 30) rfl))) (mvT hZ (hw _ (List.mem_of_getElem? (i := 41) rfl))) (by decide) (backOf (W := 0) (rm6 l Z a0 hw [] (ru * dy) (1 : Int64) h0 n0 Z0) hZ (hw _ (List.mem_of_getElem? (i := 41) rfl)) (hw _ (List.mem_of_getElem? (i := 30) rfl)) (by decide) (by decide)) (g := (mkF m 76 #[.val (.long cc), .second, .val (.long ru), .second, .val (.int rs), .val (.long dy), .second, .val (.int yd), .val (.int pl), .val (.int (tA pl rs)), .val (.long (powF N)), .second, .val (.long (1 : Int64)), .second, .val (.long (powF N)), .second, .unset, .unset, .unset, .unset, .unset, .unset, .unset, .unset, .unset, .unset, .unset, .unset, .unset, .unset, .unset, .unset] [(.long (1 : Int64)), (.long (ru * dy))])) rfl (by rw [hml]; rfl) (argsL := [(.long (ru * dy)), (.long (1 : Int64))]) (rest := []) (lenOf pd_5 rfl) rfl (by show 2 * 0 + _ ≤ _; exact Nat.le_of_eq rfl) (hb hby d3_76) (fun _ _ => ⟨rfl, e53, (by decide : 0 + 0 ≤ _), (by decide : 0 + 0 ≤ _)⟩)
  dsimp only [Pt.U, Pt.locs, Pt.cells, Pt.slots] at X54 l54 y54 z54 st54 hQ54
  subst l54 y54 z54
  obtain ⟨rfl, N54q, e54⟩ := hQ54
  have N54 := Fr.app N53 N54q
  obtain ⟨_, _, ⟨T55, L55, k55, n55⟩, -, X55, ⟨Lc55, hQ55, l55, y55, z55⟩, st55⟩ := Jvm.LawKit.callS X54 hx (y := (⟨"com/example/syndicata/syndicata/Accrual", "productFits", "(JJ)Z"⟩ : MethodName)) hown (mvT hZ (hw _ (List.mem_of_getElem? (i := 39) rfl))) (mvT hZ (hw _ (List.mem_of_getElem? (i := 40) rfl))) (mvT hZ (hw _ (List.mem_of_getElem? (i := 30) rfl))) (mvT hZ (hw _ (List.mem_of_getElem? (i := 41) rfl))) (by decide) (backOf (W := 0) (rm6 l Z a0 hw [] (yd.toInt64) (powF N) h0 n0 Z0) hZ (hw _ (List.mem_of_getElem? (i := 41) rfl)) (hw _ (List.mem_of_getElem? (i := 30) rfl)) (by decide) (by decide)) (g := (mkF m 87 #[.val (.long cc), .second, .val (.long ru), .second, .val (.int rs), .val (.long dy), .second, .val (.int yd), .val (.int pl), .val (.int (tA pl rs)), .val (.long (powF N)), .second, .val (.long (1 : Int64)), .second, .val (.long (powF N)), .second, .unset, .unset, .unset, .unset, .unset, .unset, .unset, .unset, .unset, .unset, .unset, .unset, .unset, .unset, .unset, .unset] [(.long (powF N)), (.long (yd.toInt64))])) rfl (by rw [hml]; rfl) (argsL := [(.long (yd.toInt64)), (.long (powF N))]) (rest := []) (lenOf pd_5 rfl) rfl (by show 2 * 0 + _ ≤ _; exact Nat.le_of_eq rfl) (hb hby d3_87) (fun _ _ => ⟨rfl, e54, (by decide : 0 + 0 ≤ _), (by decide : 0 + 0 ≤ _)⟩)
  dsimp only [Pt.U, Pt.locs, Pt.cells, Pt.slots] at X55 l55 y55 z55 st55 hQ55
  subst l55 y55 z55
  obtain ⟨rfl, N55q, e55⟩ := hQ55
  have N55 := Fr.app N54 N55q
  obtain ⟨_, _, ⟨T56, L56, k56, n56⟩, -, X56, ⟨Lc56, hQ56, l56, y56, z56⟩, st56⟩ := Jvm.LawKit.callS X55 hx (y := (⟨"com/example/syndicata/syndicata/Accrual", "productFits", "(JJ)Z"⟩ : MethodName)) hown (mvT hZ (hw _ (List.mem_of_getElem? (i := 39) rfl))) (mvT hZ (hw _ (List.mem_of_getElem? (i := 40) rfl))) (mvT hZ (hw _ (List.mem_of_getElem? (i := 30) rfl))) (mvT hZ (hw _ (List.mem_of_getElem? (i := 41) rfl))) (by decide) (backOf (W := 0) (rm6 l Z a0 hw [] cc ((perF ru dy (1 : Int64)) / (divF yd (powF N))) h0 n0 Z0) hZ (hw _ (List.mem_of_getElem? (i := 41) rfl)) (hw _ (List.mem_of_getElem? (i := 30) rfl)) (by decide) (by decide)) (g := (mkF m 131 #[.val (.long cc), .second, .val (.long ru), .second, .val (.int rs), .val (.long dy), .second, .val (.int yd), .val (.int pl), .val (.int (tA pl rs)), .val (.long (powF N)), .second, .val (.long (1 : Int64)), .second, .val (.long (powF N)), .second, .val (.long (perF ru dy (1 : Int64))), .second, .val (.long (divF yd (powF N))), .second, .val (.long ((perF ru dy (1 : Int64)) / (divF yd (powF N)))), .second, .val (.long ((perF ru dy (1 : Int64)) % (divF yd (powF N)))), .second, .unset, .unset, .unset, .unset, .unset, .unset, .unset, .unset] [(.long ((perF ru dy (1 : Int64)) / (divF yd (powF N)))), (.long cc)])) rfl (by rw [hml]; rfl) (argsL := [(.long cc), (.long ((perF ru dy (1 : Int64)) / (divF yd (powF N))))]) (rest := []) (lenOf pd_5 rfl) rfl (by show 2 * 0 + _ ≤ _; exact Nat.le_of_eq rfl) (hb hby d3_131) (fun _ _ => ⟨rfl, e55, (by decide : 0 + 0 ≤ _), (by decide : 0 + 0 ≤ _)⟩)
  dsimp only [Pt.U, Pt.locs, Pt.cells, Pt.slots] at X56 l56 y56 z56 st56 hQ56
  subst l56 y56 z56
  obtain ⟨rfl, N56q, e56⟩ := hQ56
  have N56 := Fr.app N55 N56q
  obtain ⟨_, _, ⟨T57, L57, k57, n57⟩, -, X57, ⟨Lc57, hQ57, l57, y57, z57⟩, st57⟩ := Jvm.LawKit.callS X56 hx (y := (⟨"com/example/syndicata/syndicata/Accrual", "productFits", "(JJ)Z"⟩ : MethodName)) hown (mvT hZ (hw _ (List.mem_of_getElem? (i := 39) rfl))) (mvT hZ (hw _ (List.mem_of_getElem? (i := 40) rfl))) (mvT hZ (hw _ (List.mem_of_getElem? (i := 30) rfl))) (mvT hZ (hw _ (List.mem_of_getElem? (i := 41) rfl))) (by decide) (backOf (W := 0) (rm6 l Z a0 hw [] cc ((perF ru dy (1 : Int64)) % (divF yd (powF N))) h0 n0 Z0) hZ (hw _ (List.mem_of_getElem? (i := 41) rfl)) (hw _ (List.mem_of_getElem? (i := 30) rfl)) (by decide) (by decide)) (g := (mkF m 140 #[.val (.long cc), .second, .val (.long ru), .second, .val (.int rs), .val (.long dy), .second, .val (.int yd), .val (.int pl), .val (.int (tA pl rs)), .val (.long (powF N)), .second, .val (.long (1 : Int64)), .second, .val (.long (powF N)), .second, .val (.long (perF ru dy (1 : Int64))), .second, .val (.long (divF yd (powF N))), .second, .val (.long ((perF ru dy (1 : Int64)) / (divF yd (powF N)))), .second, .val (.long ((perF ru dy (1 : Int64)) % (divF yd (powF N)))), .second, .unset, .unset, .unset, .unset, .unset, .unset, .unset, .unset] [(.long ((perF ru dy (1 : Int64)) % (divF yd (powF N)))), (.long cc)])) rfl (by rw [hml]; rfl) (argsL := [(.long cc), (.long ((perF ru dy (1 : Int64)) % (divF yd (powF N))))]) (rest := []) (lenOf pd_5 rfl) rfl (by show 2 * 0 + _ ≤ _; exact Nat.le_of_eq rfl) (hb hby d3_140) (fun _ _ => ⟨rfl, e56, (by decide : 0 + 0 ≤ _), (by decide : 0 + 0 ≤ _)⟩)
  dsimp only [Pt.U, Pt.locs, Pt.cells, Pt.slots] at X57 l57 y57 z57 st57 hQ57
  subst l57 y57 z57
  obtain ⟨rfl, N57q, e57⟩ := hQ57
  have N57 := Fr.app N56 N57q
  obtain ⟨_, _, ⟨T58, L58, k58, n58⟩, -, X58, ⟨Lc58, hQ58, l58, y58, z58⟩, st58⟩ := Jvm.LawKit.callS X57 hx (y := (⟨"java/lang/Math", "abs", "(J)J"⟩ : MethodName)) hown (mvT hZ (hw _ (List.mem_of_getElem? (i := 46) rfl))) (mvT hZ (hw _ (List.mem_of_getElem? (i := 26) rfl))) (mvT hZ (hw _ (List.mem_of_getElem? (i := 23) rfl))) (mvT hZ (hw _ (List.mem_of_getElem? (i := 27) rfl))) (by decide) (backOf (W := 0) (rm2 l Z a0 hw [] ((cc * ((perF ru dy (1 : Int64)) % (divF yd (powF N)))) % (divF yd (powF N))) h0 n0 Z0) hZ (hw _ (List.mem_of_getElem? (i := 27) rfl)) (hw _ (List.mem_of_getElem? (i := 23) rfl)) (by decide) (by decide)) (g := (mkF m 172 #[.val (.long cc), .second, .val (.long ru), .second, .val (.int rs), .val (.long dy), .second, .val (.int yd), .val (.int pl), .val (.int (tA pl rs)), .val (.long (powF N)), .second, .val (.long (1 : Int64)), .second, .val (.long (powF N)), .second, .val (.long (perF ru dy (1 : Int64))), .second, .val (.long (divF yd (powF N))), .second, .val (.long ((perF ru dy (1 : Int64)) / (divF yd (powF N)))), .second, .val (.long ((perF ru dy (1 : Int64)) % (divF yd (powF N)))), .second, .val (.long (cc * ((perF ru dy (1 : Int64)) / (divF yd (powF N))))), .second, .val (.long ((cc * ((perF ru dy (1 : Int64)) % (divF yd (powF N)))) / (divF yd (powF N)))), .second, .unset, .unset, .unset, .unset] [(.long ((cc * ((perF ru dy (1 : Int64)) % (divF yd (powF N)))) % (divF yd (powF N))))])) rfl (by rw [hml]; rfl) (argsL := [(.long ((cc * ((perF ru dy (1 : Int64)) % (divF yd (powF N)))) % (divF yd (powF N))))]) (rest := []) (lenOf pd_1 rfl) rfl (by show 2 * 0 + _ ≤ _; exact Nat.le_of_eq rfl) (hb hby d3_172) (fun _ _ => ⟨rfl, e57, (by decide : 0 + 0 ≤ _), (by decide : 0 + 0 ≤ _)⟩)
  dsimp only [Pt.U, Pt.locs, Pt.cells, Pt.slots] at X58 l58 y58 z58 st58 hQ58
  subst l58 y58 z58
  obtain ⟨rfl, N58q, e58⟩ := hQ58
  have N58 := Fr.app N57 N58q
  obtain ⟨_, _, ⟨T59, L59, k59, n59⟩, -, X59, ⟨Lc59, hQ59, l59, y59, z59⟩, st59⟩ := Jvm.LawKit.callS X58 hx (y := (⟨"java/lang/Long", "signum", "(J)I"⟩ : MethodName)) hown (mvT hZ (hw _ (List.mem_of_getElem? (i := 47) rfl))) (mvT hZ (hw _ (List.mem_of_getElem? (i := 48) rfl))) (mvT hZ (hw _ (List.mem_of_getElem? (i := 49) rfl))) (mvT hZ (hw _ (List.mem_of_getElem? (i := 50) rfl))) (by decide) (backOf (W := 0) (rm8 l Z a0 hw [] cc h0 n0 Z0) hZ (hw _ (List.mem_of_getElem? (i := 50) rfl)) (hw _ (List.mem_of_getElem? (i := 49) rfl)) (by decide) (by decide)) (g := (mkF m 189 #[.val (.long cc), .second, .val (.long ru), .second, .val (.int rs), .val (.long dy), .second, .val (.int yd), .val (.int pl), .val (.int (tA pl rs)), .val (.long (powF N)), .second, .val (.long (1 : Int64)), .second, .val (.long (powF N)), .second, .val (.long (perF ru dy (1 : Int64))), .second, .val (.long (divF yd (powF N))), .second, .val (.long ((perF ru dy (1 : Int64)) / (divF yd (powF N)))), .second, .val (.long ((perF ru dy (1 : Int64)) % (divF yd (powF N)))), .second, .val (.long (cc * ((perF ru dy (1 : Int64)) / (divF yd (powF N))))), .second, .val (.long ((cc * ((perF ru dy (1 : Int64)) % (divF yd (powF N)))) / (divF yd (powF N)))), .second, .val (.long (remF cc ((perF ru dy (1 : Int64)) % (divF yd (powF N))) (divF yd (powF N)))), .second, .unset, .unset] [(.long cc)])) rfl (by rw [hml]; rfl) (argsL := [(.long cc)]) (rest := []) (lenOf pd_7 rfl) rfl (by show 2 * 0 + _ ≤ _; exact Nat.le_of_eq rfl) (hb hby d3_189) (fun _ _ => ⟨rfl, e58, (by decide : 0 + 0 ≤ _), (by decide : 0 + 0 ≤ _)⟩)
  dsimp only [Pt.U, Pt.locs, Pt.cells, Pt.slots] at X59 l59 y59 z59 st59 hQ59
  subst l59 y59 z59
  obtain ⟨rfl, N59q, e59⟩ := hQ59
  have N59 := Fr.app N58 N59q
  obtain ⟨_, _, ⟨T60, L60, k60, n60⟩, -, X60, ⟨Lc60, hQ60, l60, y60, z60⟩, st60⟩ := Jvm.LawKit.callS X59 hx (y := (⟨"java/lang/Long", "signum", "(J)I"⟩ : MethodName)) hown (mvT hZ (hw _ (List.mem_of_getElem? (i := 47) rfl))) (mvT hZ (hw _ (List.mem_of_getElem? (i := 48) rfl))) (mvT hZ (hw _ (List.mem_of_getElem? (i := 49) rfl))) (mvT hZ (hw _ (List.mem_of_getElem? (i := 50) rfl))) (by decide) (backOf (W := 1) (rm8 l Z a0 hw [] (perF ru dy (1 : Int64)) h0 n0 Z0) hZ (hw _ (List.mem_of_getElem? (i := 50) rfl)) (hw _ (List.mem_of_getElem? (i := 49) rfl)) (by decide) (by decide)) (g := (mkF m 194 #[.val (.long cc), .second, .val (.long ru), .second, .val (.int rs), .val (.long dy), .second, .val (.int yd), .val (.int pl), .val (.int (tA pl rs)), .val (.long (powF N)), .second, .val (.long (1 : Int64)), .second, .val (.long (powF N)), .second, .val (.long (perF ru dy (1 : Int64))), .second, .val (.long (divF yd (powF N))), .second, .val (.long ((perF ru dy (1 : Int64)) / (divF yd (powF N)))), .second, .val (.long ((perF ru dy (1 : Int64)) % (divF yd (powF N)))), .second, .val (.long (cc * ((perF ru dy (1 : Int64)) / (divF yd (powF N))))), .second, .val (.long ((cc * ((perF ru dy (1 : Int64)) % (divF yd (powF N)))) / (divF yd (powF N)))), .second, .val (.long (remF cc ((perF ru dy (1 : Int64)) % (divF yd (powF N))) (divF yd (powF N)))), .second, .unset, .unset] [(.long (perF ru dy (1 : Int64))), (.int (sigF cc))])) rfl (by rw [hml]; rfl) (argsL := [(.long (perF ru dy (1 : Int64)))]) (rest := [(.int (sigF cc))]) (lenOf pd_7 rfl) rfl (by show 2 * 0 + _ ≤ _; exact Nat.le_of_eq rfl) (hb hby d3_194) (fun _ _ => ⟨rfl, e59, (by decide : 0 + 0 ≤ _), (by decide : 0 + 0 ≤ _)⟩)
  dsimp only [Pt.U, Pt.locs, Pt.cells, Pt.slots] at X60 l60 y60 z60 st60 hQ60
  subst l60 y60 z60
  obtain ⟨rfl, N60q, e60⟩ := hQ60
  have N60 := Fr.app N59 N60q
  obtain ⟨_, _, ⟨T61, L61, k61, n61⟩, -, X61, ⟨Lc61, hQ61, l61, y61, z61⟩, st61⟩ := Jvm.LawKit.callS X60 hx (y := (⟨"com/example/syndicata/syndicata/Accrual", "sumFits", "(JJ)Z"⟩ : MethodName)) hown (mvT hZ (hw _ (List.mem_of_getElem? (i := 51) rfl))) (mvT hZ (hw _ (List.mem_of_getElem? (i := 52) rfl))) (mvT hZ (hw _ (List.mem_of_getElem? (i := 30) rfl))) (mvT hZ (hw _ (List.mem_of_getElem? (i := 53) rfl))) (by decide) (backOf (W := 0) (rm9 l Z a0 hw [] (cc * ((perF ru dy (1 : Int64)) / (divF yd (powF N)))) ((cc * ((perF ru dy (1 : Int64)) % (divF yd (powF N)))) / (divF yd (powF N))) h0 n0 Z0) hZ (hw _ (List.mem_of_getElem? (i := 53) rfl)) (hw _ (List.mem_of_getElem? (i := 30) rfl)) (by decide) (by decide)) (g := (mkF m 209 #[.val (.long cc), .second, .val (.long ru), .second, .val (.int rs), .val (.long dy), .second, .val (.int yd), .val (.int pl), .val (.int (tA pl rs)), .val (.long (powF N)), .second, .val (.long (1 : Int64)), .second, .val (.long (powF N)), .second, .val (.long (perF ru dy (1 : Int64))), .second, .val (.long (divF yd (powF N))), .second, .val (.long ((perF ru dy (1 : Int64)) / (divF yd (powF N)))), .second, .val (.long ((perF ru dy (1 : Int64)) % (divF yd (powF N)))), .second, .val (.long (cc * ((perF ru dy (1 : Int64)) / (divF yd (powF N))))), .second, .val (.long ((cc * ((perF ru dy (1 : Int64)) % (divF yd (powF N)))) / (divF yd (powF N)))), .second, .val (.long (remF cc ((perF ru dy (1 : Int64)) % (divF yd (powF N))) (divF yd (powF N)))), .second, .val (.long (rupF cc (perF ru dy (1 : Int64)))), .second] [(.long ((cc * ((perF ru dy (1 : Int64)) % (divF yd (powF N)))) / (divF yd (powF N)))), (.long (cc * ((perF ru dy (1 : Int64)) / (divF yd (powF N)))))])) rfl (by rw [hml]; rfl) (argsL := [(.long (cc * ((perF ru dy (1 : Int64)) / (divF yd (powF N))))), (.long ((cc * ((perF ru dy (1 : Int64)) % (divF yd (powF N)))) / (divF yd (powF N))))]) (rest := []) (lenOf pd_5 rfl) rfl (by show 2 * 0 + _ ≤ _; exact Nat.le_of_eq rfl) (hb hby d3_209) (fun _ _ => ⟨rfl, e60, (by decide : 0 + 0 ≤ _), (by decide : 0 + 0 ≤ _)⟩)
  dsimp only [Pt.U, Pt.locs, Pt.cells, Pt.slots] at X61 l61 y61 z61 st61 hQ61
  subst l61 y61 z61
  obtain ⟨rfl, N61q, e61⟩ := hQ61
  have N61 := Fr.app N60 N61q
  obtain ⟨_, _, ⟨T62, L62, k62, n62⟩, -, X62, ⟨Lc62, hQ62, l62, y62, z62⟩, st62⟩ := Jvm.LawKit.callS X61 hx (y := (⟨"com/example/syndicata/syndicata/Accrual", "sumFits", "(JJ)Z"⟩ : MethodName)) hown (mvT hZ (hw _ (List.mem_of_getElem? (i := 51) rfl))) (mvT hZ (hw _ (List.mem_of_getElem? (i := 52) rfl))) (mvT hZ (hw _ (List.mem_of_getElem? (i := 30) rfl))) (mvT hZ (hw _ (List.mem_of_getElem? (i := 53) rfl))) (by decide) (backOf (W := 0) (rm9 l Z a0 hw [] ((cc * ((perF ru dy (1 : Int64)) / (divF yd (powF N)))) + ((cc * ((perF ru dy (1 : Int64)) % (divF yd (powF N)))) / (divF yd (powF N)))) (rupF cc (perF ru dy (1 : Int64))) h0 n0 Z0) hZ (hw _ (List.mem_of_getElem? (i := 53) rfl)) (hw _ (List.mem_of_getElem? (i := 30) rfl)) (by decide) (by decide)) (g := (mkF m 222 #[.val (.long cc), .second, .val (.long ru), .second, .val (.int rs), .val (.long dy), .second, .val (.int yd), .val (.int pl), .val (.int (tA pl rs)), .val (.long (powF N)), .second, .val (.long (1 : Int64)), .second, .val (.long (powF N)), .second, .val (.long (perF ru dy (1 : Int64))), .second, .val (.long (divF yd (powF N))), .second, .val (.long ((perF ru dy (1 : Int64)) / (divF yd (powF N)))), .second, .val (.long ((perF ru dy (1 : Int64)) % (divF yd (powF N)))), .second, .val (.long (cc * ((perF ru dy (1 : Int64)) / (divF yd (powF N))))), .second, .val (.long ((cc * ((perF ru dy (1 : Int64)) % (divF yd (powF N)))) / (divF yd (powF N)))), .second, .val (.long (remF cc ((perF ru dy (1 : Int64)) % (divF yd (powF N))) (divF yd (powF N)))), .second, .val (.long (rupF cc (perF ru dy (1 : Int64)))), .second] [(.long (rupF cc (perF ru dy (1 : Int64)))), (.long ((cc * ((perF ru dy (1 : Int64)) / (divF yd (powF N)))) + ((cc * ((perF ru dy (1 : Int64)) % (divF yd (powF N)))) / (divF yd (powF N)))))])) rfl (by rw [hml]; rfl) (argsL := [(.long ((cc * ((perF ru dy (1 : Int64)) / (divF yd (powF N)))) + ((cc * ((perF ru dy (1 : Int64)) % (divF yd (powF N)))) / (divF yd (powF N))))), (.long (rupF cc (perF ru dy (1 : Int64))))]) (rest := []) (lenOf pd_5 rfl) rfl (by show 2 * 0 + _ ≤ _; exact Nat.le_of_eq rfl) (hb hby d3_222) (fun _ _ => ⟨rfl, e61, (by decide : 0 + 0 ≤ _), (by decide : 0 + 0 ≤ _)⟩)
  dsimp only [Pt.U, Pt.locs, Pt.cells, Pt.slots] at X62 l62 y62 z62 st62 hQ62
  subst l62 y62 z62
  obtain ⟨rfl, N62q, e62⟩ := hQ62
  have N62 := Fr.app N61 N62q
  obtain ⟨fs, hr, hrun, hended, hW, hsame⟩ := X62.leave (v := some (.long (sum3 (cc * ((perF ru dy (1 : Int64)) / (divF yd (powF N)))) ((cc * ((perF ru dy (1 : Int64)) % (divF yd (powF N)))) / (divF yd (powF N))) (rupF cc (perF ru dy (1 : Int64)))))) (fun h => by rw [Bd.returns] at h; cases h)
  refine ⟨_, _, pre0 _ ?_, hrun, hended, _, _, rfl, ?_, ⟨_, rfl⟩, hW, hsame.mono (by decide) (by decide)⟩
  · show Steps p.tables e below (s₁.setTop (mkF m 0 #[.val (.long cc), .second, .val (.long ru), .second, .val (.int rs), .val (.long dy), .second, .val (.int yd), .val (.int pl), .unset, .unset, .unset, .unset, .unset, .unset, .unset, .unset, .unset, .unset, .unset, .unset, .unset, .unset, .unset, .unset, .unset, .unset, .unset, .unset, .unset, .unset, .unset] [])) _
    refine XS.iload X0.here hx rfl (hb hby d3_0) rfl ?_
    refine XS.iconst X0.here hx rfl (hb hby d3_2) ?_
    refine XS.isub X0.here hx rfl (hb hby d3_3) rfl ?_
    refine XS.iload X0.here hx rfl (hb hby d3_4) rfl ?_
    refine XS.isub X0.here hx rfl (hb hby d3_6) rfl ?_
    refine XS.iconst X0.here hx rfl (hb hby d3_7) ?_
    refine XS.isub X0.here hx rfl (hb hby d3_8) rfl ?_
    show Steps p.tables e below (s₁.setTop (mkF m 9 #[.val (.long cc), .second, .val (.long ru), .second, .val (.int rs), .val (.long dy), .second, .val (.int yd), .val (.int pl), .unset, .unset, .unset, .unset, .unset, .unset, .unset, .unset, .unset, .unset, .unset, .unset, .unset, .unset, .unset, .unset, .unset, .unset, .unset, .unset, .unset, .unset, .unset] [(.int (tA pl rs))])) _
    refine XS.istore X0.here hx rfl (hb hby d3_9) rfl (l' := #[.val (.long cc), .second, .val (.long ru), .second, .val (.int rs), .val (.long dy), .second, .val (.int yd), .val (.int pl), .val (.int (tA pl rs)), .unset, .unset, .unset, .unset, .unset, .unset, .unset, .unset, .unset, .unset, .unset, .unset, .unset, .unset, .unset, .unset, .unset, .unset, .unset, .unset, .unset, .unset]) rfl ?_
    refine XS.iload X0.here hx rfl (hb hby d3_11) rfl ?_
    show Steps p.tables e below (s₁.setTop (mkF m 13 #[.val (.long cc), .second, .val (.long ru), .second, .val (.int rs), .val (.long dy), .second, .val (.int yd), .val (.int pl), .val (.int (tA pl rs)), .unset, .unset, .unset, .unset, .unset, .unset, .unset, .unset, .unset, .unset, .unset, .unset, .unset, .unset, .unset, .unset, .unset, .unset, .unset, .unset, .unset, .unset] [(.int (tA pl rs))])) _
    refine st50 _ ?_
    refine XS.bipush X50.here hx rfl (hb hby d3_16) ?_
    refine XS.icmpYes X50.here hx rfl (pc0 := 18) (pc' := 25) rfl (hb hby d3_18) rfl (flt hc18).2.2.2 (by decide) (by decide) ?_
    refine XS.iload X50.here hx rfl (hb hby d3_25) rfl ?_
    show Steps p.tables e below (T50.setTop (mkF m 27 #[.val (.long cc), .second, .val (.long ru), .second, .val (.int rs), .val (.long dy), .second, .val (.int yd), .val (.int pl), .val (.int (tA pl rs)), .unset, .unset, .unset, .unset, .unset, .unset, .unset, .unset, .unset, .unset, .unset, .unset, .unset, .unset, .unset, .unset, .unset, .unset, .unset, .unset, .unset, .unset] [(.int (tA pl rs))])) _
    refine st51 _ ?_
    show Steps p.tables e below (T51.setTop (mkF m 30 #[.val (.long cc), .second, .val (.long ru), .second, .val (.int rs), .val (.long dy), .second, .val (.int yd), .val (.int pl), .val (.int (tA pl rs)), .unset, .unset, .unset, .unset, .unset, .unset, .unset, .unset, .unset, .unset, .unset, .unset, .unset, .unset, .unset, .unset, .unset, .unset, .unset, .unset, .unset, .unset] [(.int (Int32.ofNat N))])) _
    refine st52 _ ?_
    refine XS.lstore X52.here hx rfl (hb hby d3_33) rfl (l' := #[.val (.long cc), .second, .val (.long ru), .second, .val (.int rs), .val (.long dy), .second, .val (.int yd), .val (.int pl), .val (.int (tA pl rs)), .val (.long (powF N)), .second, .unset, .unset, .unset, .unset, .unset, .unset, .unset, .unset, .unset, .unset, .unset, .unset, .unset, .unset, .unset, .unset, .unset, .unset, .unset, .unset]) rfl ?_
    refine XS.iload X52.here hx rfl (hb hby d3_35) rfl ?_
    refine XS.ifYes X52.here hx rfl (pc0 := 37) (pc' := 45) rfl (hb hby d3_37) rfl ((if0 _ _).trans (flt hc37).2.2.2) (by decide) (by decide) ?_
    refine XS.lconst X52.here hx rfl (hb hby d3_45) ?_
    refine XS.lstore X52.here hx rfl (hb hby d3_46) rfl (l' := #[.val (.long cc), .second, .val (.long ru), .second, .val (.int rs), .val (.long dy), .second, .val (.int yd), .val (.int pl), .val (.int (tA pl rs)), .val (.long (powF N)), .second, .val (.long (1 : Int64)), .second, .unset, .unset, .unset, .unset, .unset, .unset, .unset, .unset, .unset, .unset, .unset, .unset, .unset, .unset, .unset, .unset, .unset, .unset]) rfl ?_
    refine XS.iload X52.here hx rfl (hb hby d3_48) rfl ?_
    refine XS.ifYes X52.here hx rfl (pc0 := 50) (pc' := 57) rfl (hb hby d3_50) rfl ((if0 _ _).trans (flt hc50).2.2.2) (by decide) (by decide) ?_
    show Steps p.tables e below (T52.setTop (mkF m 57 #[.val (.long cc), .second, .val (.long ru), .second, .val (.int rs), .val (.long dy), .second, .val (.int yd), .val (.int pl), .val (.int (tA pl rs)), .val (.long (powF N)), .second, .val (.long (1 : Int64)), .second, .unset, .unset, .unset, .unset, .unset, .unset, .unset, .unset, .unset, .unset, .unset, .unset, .unset, .unset, .unset, .unset, .unset, .unset] [])) _
    refine XS.lload X52.here hx rfl (hb hby d3_57) rfl ?_
    refine XS.lstore X52.here hx rfl (hb hby d3_59) rfl (l' := #[.val (.long cc), .second, .val (.long ru), .second, .val (.int rs), .val (.long dy), .second, .val (.int yd), .val (.int pl), .val (.int (tA pl rs)), .val (.long (powF N)), .second, .val (.long (1 : Int64)), .second, .val (.long (powF N)), .second, .unset, .unset, .unset, .unset, .unset, .unset, .unset, .unset, .unset, .unset, .unset, .unset, .unset, .unset, .unset, .unset]) rfl ?_
    refine XS.lloadN X52.here hx rfl (hb hby d3_61) rfl ?_
    refine XS.lload X52.here hx rfl (hb hby d3_62) rfl ?_
    show Steps p.tables e below (T52.setTop (mkF m 64 #[.val (.long cc), .second, .val (.long ru), .second, .val (.int rs), .val (.long dy), .second, .val (.int yd), .val (.int pl), .val (.int (tA pl rs)), .val (.long (powF N)), .second, .val (.long (1 : Int64)), .second, .val (.long (powF N)), .second, .unset, .unset, .unset, .unset, .unset, .unset, .unset, .unset, .unset, .unset, .unset, .unset, .unset, .unset, .unset, .unset] [(.long dy), (.long ru)])) _
    refine st53 _ ?_
    refine XS.ifNo X53.here hx rfl (hb hby d3_67) rfl ((if0 _ _).trans (feq hc67).1) ?_
    refine XS.lloadN X53.here hx rfl (hb hby d3_70) rfl ?_
    refine XS.lload X53.here hx rfl (hb hby d3_71) rfl ?_
    refine XS.lmul X53.here hx rfl (hb hby d3_73) rfl ?_
    refine XS.lload X53.here hx rfl (hb hby d3_74) rfl ?_
    show Steps p.tables e below (T53.setTop (mkF m 76 #[.val (.long cc), .second, .val (.long ru), .second, .val (.int rs), .val (.long dy), .second, .val (.int yd), .val (.int pl), .val (.int (tA pl rs)), .val (.long (powF N)), .second, .val (.long (1 : Int64)), .second, .val (.long (powF N)), .second, .unset, .unset, .unset, .unset, .unset, .unset, .unset, .unset, .unset, .unset, .unset, .unset, .unset, .unset, .unset, .unset] [(.long (1 : Int64)), (.long (ru * dy))])) _
    refine st54 _ ?_
    refine XS.ifNo X54.here hx rfl (hb hby d3_79) rfl ((if0 _ _).trans (feq hc79).1) ?_
    refine XS.iload X54.here hx rfl (hb hby d3_82) rfl ?_
    refine XS.i2l X54.here hx rfl (hb hby d3_84) rfl ?_
    refine XS.lload X54.here hx rfl (hb hby d3_85) rfl ?_
    show Steps p.tables e below (T54.setTop (mkF m 87 #[.val (.long cc), .second, .val (.long ru), .second, .val (.int rs), .val (.long dy), .second, .val (.int yd), .val (.int pl), .val (.int (tA pl rs)), .val (.long (powF N)), .second, .val (.long (1 : Int64)), .second, .val (.long (powF N)), .second, .unset, .unset, .unset, .unset, .unset, .unset, .unset, .unset, .unset, .unset, .unset, .unset, .unset, .unset, .unset, .unset] [(.long (powF N)), (.long (yd.toInt64))])) _
    refine st55 _ ?_
    refine XS.ifYes X55.here hx rfl (pc0 := 90) (pc' := 97) rfl (hb hby d3_90) rfl ((if0 _ _).trans (feq hc90).2) (by decide) (by decide) ?_
    refine XS.lloadN X55.here hx rfl (hb hby d3_97) rfl ?_
    refine XS.lload X55.here hx rfl (hb hby d3_98) rfl ?_
    refine XS.lmul X55.here hx rfl (hb hby d3_100) rfl ?_
    refine XS.lload X55.here hx rfl (hb hby d3_101) rfl ?_
    refine XS.lmul X55.here hx rfl (hb hby d3_103) rfl ?_
    show Steps p.tables e below (T55.setTop (mkF m 104 #[.val (.long cc), .second, .val (.long ru), .second, .val (.int rs), .val (.long dy), .second, .val (.int yd), .val (.int pl), .val (.int (tA pl rs)), .val (.long (powF N)), .second, .val (.long (1 : Int64)), .second, .val (.long (powF N)), .second, .unset, .unset, .unset, .unset, .unset, .unset, .unset, .unset, .unset, .unset, .unset, .unset, .unset, .unset, .unset, .unset] [(.long (perF ru dy (1 : Int64)))])) _
    refine XS.lstore X55.here hx rfl (hb hby d3_104) rfl (l' := #[.val (.long cc), .second, .val (.long ru), .second, .val (.int rs), .val (.long dy), .second, .val (.int yd), .val (.int pl), .val (.int (tA pl rs)), .val (.long (powF N)), .second, .val (.long (1 : Int64)), .second, .val (.long (powF N)), .second, .val (.long (perF ru dy (1 : Int64))), .second, .unset, .unset, .unset, .unset, .unset, .unset, .unset, .unset, .unset, .unset, .unset, .unset, .unset, .unset]) rfl ?_
    refine XS.iload X55.here hx rfl (hb hby d3_106) rfl ?_
    refine XS.i2l X55.here hx rfl (hb hby d3_108) rfl ?_
    refine XS.lload X55.here hx rfl (hb hby d3_109) rfl ?_
    refine XS.lmul X55.here hx rfl (hb hby d3_111) rfl ?_
    show Steps p.tables e below (T55.setTop (mkF m 112 #[.val (.long cc), .second, .val (.long ru), .second, .val (.int rs), .val (.long dy), .second, .val (.int yd), .val (.int pl), .val (.int (tA pl rs)), .val (.long (powF N)), .second, .val (.long (1 : Int64)), .second, .val (.long (powF N)), .second, .val (.long (perF ru dy (1 : Int64))), .second, .unset, .unset, .unset, .unset, .unset, .unset, .unset, .unset, .unset, .unset, .unset, .unset, .unset, .unset] [(.long (divF yd (powF N)))])) _
    refine XS.lstore X55.here hx rfl (hb hby d3_112) rfl (l' := #[.val (.long cc), .second, .val (.long ru), .second, .val (.int rs), .val (.long dy), .second, .val (.int yd), .val (.int pl), .val (.int (tA pl rs)), .val (.long (powF N)), .second, .val (.long (1 : Int64)), .second, .val (.long (powF N)), .second, .val (.long (perF ru dy (1 : Int64))), .second, .val (.long (divF yd (powF N))), .second, .unset, .unset, .unset, .unset, .unset, .unset, .unset, .unset, .unset, .unset, .unset, .unset]) rfl ?_
    refine XS.lload X55.here hx rfl (hb hby d3_114) rfl ?_
    refine XS.lload X55.here hx rfl (hb hby d3_116) rfl ?_
    refine XS.ldiv X55.here hx rfl (hb hby d3_118) rfl hnz118 ?_
    show Steps p.tables e below (T55.setTop (mkF m 119 #[.val (.long cc), .second, .val (.long ru), .second, .val (.int rs), .val (.long dy), .second, .val (.int yd), .val (.int pl), .val (.int (tA pl rs)), .val (.long (powF N)), .second, .val (.long (1 : Int64)), .second, .val (.long (powF N)), .second, .val (.long (perF ru dy (1 : Int64))), .second, .val (.long (divF yd (powF N))), .second, .unset, .unset, .unset, .unset, .unset, .unset, .unset, .unset, .unset, .unset, .unset, .unset] [(.long ((perF ru dy (1 : Int64)) / (divF yd (powF N))))])) _
    refine XS.lstore X55.here hx rfl (hb hby d3_119) rfl (l' := #[.val (.long cc), .second, .val (.long ru), .second, .val (.int rs), .val (.long dy), .second, .val (.int yd), .val (.int pl), .val (.int (tA pl rs)), .val (.long (powF N)), .second, .val (.long (1 : Int64)), .second, .val (.long (powF N)), .second, .val (.long (perF ru dy (1 : Int64))), .second, .val (.long (divF yd (powF N))), .second, .val (.long ((perF ru dy (1 : Int64)) / (divF yd (powF N)))), .second, .unset, .unset, .unset, .unset, .unset, .unset, .unset, .unset, .unset, .unset]) rfl ?_
    refine XS.lload X55.here hx rfl (hb hby d3_121) rfl ?_
    refine XS.lload X55.here hx rfl (hb hby d3_123) rfl ?_
    refine gwLrem X55.here hx rfl (hb hby d3_125) rfl hnz125 ?_
    show Steps p.tables e below (T55.setTop (mkF m 126 #[.val (.long cc), .second, .val (.long ru), .second, .val (.int rs), .val (.long dy), .second, .val (.int yd), .val (.int pl), .val (.int (tA pl rs)), .val (.long (powF N)), .second, .val (.long (1 : Int64)), .second, .val (.long (powF N)), .second, .val (.long (perF ru dy (1 : Int64))), .second, .val (.long (divF yd (powF N))), .second, .val (.long ((perF ru dy (1 : Int64)) / (divF yd (powF N)))), .second, .unset, .unset, .unset, .unset, .unset, .unset, .unset, .unset, .unset, .unset] [(.long ((perF ru dy (1 : Int64)) % (divF yd (powF N))))])) _
    refine XS.lstore X55.here hx rfl (hb hby d3_126) rfl (l' := #[.val (.long cc), .second, .val (.long ru), .second, .val (.int rs), .val (.long dy), .second, .val (.int yd), .val (.int pl), .val (.int (tA pl rs)), .val (.long (powF N)), .second, .val (.long (1 : Int64)), .second, .val (.long (powF N)), .second, .val (.long (perF ru dy (1 : Int64))), .second, .val (.long (divF yd (powF N))), .second, .val (.long ((perF ru dy (1 : Int64)) / (divF yd (powF N)))), .second, .val (.long ((perF ru dy (1 : Int64)) % (divF yd (powF N)))), .second, .unset, .unset, .unset, .unset, .unset, .unset, .unset, .unset]) rfl ?_
    refine XS.lloadN X55.here hx rfl (hb hby d3_128) rfl ?_
    refine XS.lload X55.here hx rfl (hb hby d3_129) rfl ?_
    show Steps p.tables e below (T55.setTop (mkF m 131 #[.val (.long cc), .second, .val (.long ru), .second, .val (.int rs), .val (.long dy), .second, .val (.int yd), .val (.int pl), .val (.int (tA pl rs)), .val (.long (powF N)), .second, .val (.long (1 : Int64)), .second, .val (.long (powF N)), .second, .val (.long (perF ru dy (1 : Int64))), .second, .val (.long (divF yd (powF N))), .second, .val (.long ((perF ru dy (1 : Int64)) / (divF yd (powF N)))), .second, .val (.long ((perF ru dy (1 : Int64)) % (divF yd (powF N)))), .second, .unset, .unset, .unset, .unset, .unset, .unset, .unset, .unset] [(.long ((perF ru dy (1 : Int64)) / (divF yd (powF N)))), (.long cc)])) _
    refine st56 _ ?_
    refine XS.ifNo X56.here hx rfl (hb hby d3_134) rfl ((if0 _ _).trans (feq hc134).1) ?_
    refine XS.lloadN X56.here hx rfl (hb hby d3_137) rfl ?_
    refine XS.lload X56.here hx rfl (hb hby d3_138) rfl ?_
    show Steps p.tables e below (T56.setTop (mkF m 140 #[.val (.long cc), .second, .val (.long ru), .second, .val (.int rs), .val (.long dy), .second, .val (.int yd), .val (.int pl), .val (.int (tA pl rs)), .val (.long (powF N)), .second, .val (.long (1 : Int64)), .second, .val (.long (powF N)), .second, .val (.long (perF ru dy (1 : Int64))), .second, .val (.long (divF yd (powF N))), .second, .val (.long ((perF ru dy (1 : Int64)) / (divF yd (powF N)))), .second, .val (.long ((perF ru dy (1 : Int64)) % (divF yd (powF N)))), .second, .unset, .unset, .unset, .unset, .unset, .unset, .unset, .unset] [(.long ((perF ru dy (1 : Int64)) % (divF yd (powF N)))), (.long cc)])) _
    refine st57 _ ?_
    refine XS.ifYes X57.here hx rfl (pc0 := 143) (pc' := 150) rfl (hb hby d3_143) rfl ((if0 _ _).trans (feq hc143).2) (by decide) (by decide) ?_
    refine XS.lloadN X57.here hx rfl (hb hby d3_150) rfl ?_
    refine XS.lload X57.here hx rfl (hb hby d3_151) rfl ?_
    refine XS.lmul X57.here hx rfl (hb hby d3_153) rfl ?_
    refine XS.lstore X57.here hx rfl (hb hby d3_154) rfl (l' := #[.val (.long cc), .second, .val (.long ru), .second, .val (.int rs), .val (.long dy), .second, .val (.int yd), .val (.int pl), .val (.int (tA pl rs)), .val (.long (powF N)), .second, .val (.long (1 : Int64)), .second, .val (.long (powF N)), .second, .val (.long (perF ru dy (1 : Int64))), .second, .val (.long (divF yd (powF N))), .second, .val (.long ((perF ru dy (1 : Int64)) / (divF yd (powF N)))), .second, .val (.long ((perF ru dy (1 : Int64)) % (divF yd (powF N)))), .second, .val (.long (cc * ((perF ru dy (1 : Int64)) / (divF yd (powF N))))), .second, .unset, .unset, .unset, .unset, .unset, .unset]) rfl ?_
    refine XS.lloadN X57.here hx rfl (hb hby d3_156) rfl ?_
    refine XS.lload X57.here hx rfl (hb hby d3_157) rfl ?_
    show Steps p.tables e below (T57.setTop (mkF m 159 #[.val (.long cc), .second, .val (.long ru), .second, .val (.int rs), .val (.long dy), .second, .val (.int yd), .val (.int pl), .val (.int (tA pl rs)), .val (.long (powF N)), .second, .val (.long (1 : Int64)), .second, .val (.long (powF N)), .second, .val (.long (perF ru dy (1 : Int64))), .second, .val (.long (divF yd (powF N))), .second, .val (.long ((perF ru dy (1 : Int64)) / (divF yd (powF N)))), .second, .val (.long ((perF ru dy (1 : Int64)) % (divF yd (powF N)))), .second, .val (.long (cc * ((perF ru dy (1 : Int64)) / (divF yd (powF N))))), .second, .unset, .unset, .unset, .unset, .unset, .unset] [(.long ((perF ru dy (1 : Int64)) % (divF yd (powF N)))), (.long cc)])) _
    refine XS.lmul X57.here hx rfl (hb hby d3_159) rfl ?_
    refine XS.lload X57.here hx rfl (hb hby d3_160) rfl ?_
    refine XS.ldiv X57.here hx rfl (hb hby d3_162) rfl hnz162 ?_
    refine XS.lstore X57.here hx rfl (hb hby d3_163) rfl (l' := #[.val (.long cc), .second, .val (.long ru), .second, .val (.int rs), .val (.long dy), .second, .val (.int yd), .val (.int pl), .val (.int (tA pl rs)), .val (.long (powF N)), .second, .val (.long (1 : Int64)), .second, .val (.long (powF N)), .second, .val (.long (perF ru dy (1 : Int64))), .second, .val (.long (divF yd (powF N))), .second, .val (.long ((perF ru dy (1 : Int64)) / (divF yd (powF N)))), .second, .val (.long ((perF ru dy (1 : Int64)) % (divF yd (powF N)))), .second, .val (.long (cc * ((perF ru dy (1 : Int64)) / (divF yd (powF N))))), .second, .val (.long ((cc * ((perF ru dy (1 : Int64)) % (divF yd (powF N)))) / (divF yd (powF N)))), .second, .unset, .unset, .unset, .unset]) rfl ?_
    refine XS.lloadN X57.here hx rfl (hb hby d3_165) rfl ?_
    refine XS.lload X57.here hx rfl (hb hby d3_166) rfl ?_
    refine XS.lmul X57.here hx rfl (hb hby d3_168) rfl ?_
    refine XS.lload X57.here hx rfl (hb hby d3_169) rfl ?_
    show Steps p.tables e below (T57.setTop (mkF m 171 #[.val (.long cc), .second, .val (.long ru), .second, .val (.int rs), .val (.long dy), .second, .val (.int yd), .val (.int pl), .val (.int (tA pl rs)), .val (.long (powF N)), .second, .val (.long (1 : Int64)), .second, .val (.long (powF N)), .second, .val (.long (perF ru dy (1 : Int64))), .second, .val (.long (divF yd (powF N))), .second, .val (.long ((perF ru dy (1 : Int64)) / (divF yd (powF N)))), .second, .val (.long ((perF ru dy (1 : Int64)) % (divF yd (powF N)))), .second, .val (.long (cc * ((perF ru dy (1 : Int64)) / (divF yd (powF N))))), .second, .val (.long ((cc * ((perF ru dy (1 : Int64)) % (divF yd (powF N)))) / (divF yd (powF N)))), .second, .unset, .unset, .unset, .unset] [(.long (divF yd (powF N))), (.long (cc * ((perF ru dy (1 : Int64)) % (divF yd (powF N)))))])) _
    refine gwLrem X57.here hx rfl (hb hby d3_171) rfl hnz171 ?_
    show Steps p.tables e below (T57.setTop (mkF m 172 #[.val (.long cc), .second, .val (.long ru), .second, .val (.int rs), .val (.long dy), .second, .val (.int yd), .val (.int pl), .val (.int (tA pl rs)), .val (.long (powF N)), .second, .val (.long (1 : Int64)), .second, .val (.long (powF N)), .second, .val (.long (perF ru dy (1 : Int64))), .second, .val (.long (divF yd (powF N))), .second, .val (.long ((perF ru dy (1 : Int64)) / (divF yd (powF N)))), .second, .val (.long ((perF ru dy (1 : Int64)) % (divF yd (powF N)))), .second, .val (.long (cc * ((perF ru dy (1 : Int64)) / (divF yd (powF N))))), .second, .val (.long ((cc * ((perF ru dy (1 : Int64)) % (divF yd (powF N)))) / (divF yd (powF N)))), .second, .unset, .unset, .unset, .unset] [(.long ((cc * ((perF ru dy (1 : Int64)) % (divF yd (powF N)))) % (divF yd (powF N))))])) _
    refine st58 _ ?_
    show Steps p.tables e below (T58.setTop (mkF m 175 #[.val (.long cc), .second, .val (.long ru), .second, .val (.int rs), .val (.long dy), .second, .val (.int yd), .val (.int pl), .val (.int (tA pl rs)), .val (.long (powF N)), .second, .val (.long (1 : Int64)), .second, .val (.long (powF N)), .second, .val (.long (perF ru dy (1 : Int64))), .second, .val (.long (divF yd (powF N))), .second, .val (.long ((perF ru dy (1 : Int64)) / (divF yd (powF N)))), .second, .val (.long ((perF ru dy (1 : Int64)) % (divF yd (powF N)))), .second, .val (.long (cc * ((perF ru dy (1 : Int64)) / (divF yd (powF N))))), .second, .val (.long ((cc * ((perF ru dy (1 : Int64)) % (divF yd (powF N)))) / (divF yd (powF N)))), .second, .unset, .unset, .unset, .unset] [(.long (remF cc ((perF ru dy (1 : Int64)) % (divF yd (powF N))) (divF yd (powF N))))])) _
    refine XS.lstore X58.here hx rfl (hb hby d3_175) rfl (l' := #[.val (.long cc), .second, .val (.long ru), .second, .val (.int rs), .val (.long dy), .second, .val (.int yd), .val (.int pl), .val (.int (tA pl rs)), .val (.long (powF N)), .second, .val (.long (1 : Int64)), .second, .val (.long (powF N)), .second, .val (.long (perF ru dy (1 : Int64))), .second, .val (.long (divF yd (powF N))), .second, .val (.long ((perF ru dy (1 : Int64)) / (divF yd (powF N)))), .second, .val (.long ((perF ru dy (1 : Int64)) % (divF yd (powF N)))), .second, .val (.long (cc * ((perF ru dy (1 : Int64)) / (divF yd (powF N))))), .second, .val (.long ((cc * ((perF ru dy (1 : Int64)) % (divF yd (powF N)))) / (divF yd (powF N)))), .second, .val (.long (remF cc ((perF ru dy (1 : Int64)) % (divF yd (powF N))) (divF yd (powF N)))), .second, .unset, .unset]) rfl ?_
    refine XS.lload X58.here hx rfl (hb hby d3_177) rfl ?_
    refine XS.lload X58.here hx rfl (hb hby d3_179) rfl ?_
    refine XS.lload X58.here hx rfl (hb hby d3_181) rfl ?_
    refine XS.lsub X58.here hx rfl (hb hby d3_183) rfl ?_
    refine XS.lcmp X58.here hx rfl (hb hby d3_184) rfl ?_
    refine XS.ifNo X58.here hx rfl (hb hby d3_185) rfl ((if0 _ _).trans (flt hc185).1) ?_
    refine XS.lloadN X58.here hx rfl (hb hby d3_188) rfl ?_
    show Steps p.tables e below (T58.setTop (mkF m 189 #[.val (.long cc), .second, .val (.long ru), .second, .val (.int rs), .val (.long dy), .second, .val (.int yd), .val (.int pl), .val (.int (tA pl rs)), .val (.long (powF N)), .second, .val (.long (1 : Int64)), .second, .val (.long (powF N)), .second, .val (.long (perF ru dy (1 : Int64))), .second, .val (.long (divF yd (powF N))), .second, .val (.long ((perF ru dy (1 : Int64)) / (divF yd (powF N)))), .second, .val (.long ((perF ru dy (1 : Int64)) % (divF yd (powF N)))), .second, .val (.long (cc * ((perF ru dy (1 : Int64)) / (divF yd (powF N))))), .second, .val (.long ((cc * ((perF ru dy (1 : Int64)) % (divF yd (powF N)))) / (divF yd (powF N)))), .second, .val (.long (remF cc ((perF ru dy (1 : Int64)) % (divF yd (powF N))) (divF yd (powF N)))), .second, .unset, .unset] [(.long cc)])) _
    refine st59 _ ?_
    refine XS.lload X59.here hx rfl (hb hby d3_192) rfl ?_
    show Steps p.tables e below (T59.setTop (mkF m 194 #[.val (.long cc), .second, .val (.long ru), .second, .val (.int rs), .val (.long dy), .second, .val (.int yd), .val (.int pl), .val (.int (tA pl rs)), .val (.long (powF N)), .second, .val (.long (1 : Int64)), .second, .val (.long (powF N)), .second, .val (.long (perF ru dy (1 : Int64))), .second, .val (.long (divF yd (powF N))), .second, .val (.long ((perF ru dy (1 : Int64)) / (divF yd (powF N)))), .second, .val (.long ((perF ru dy (1 : Int64)) % (divF yd (powF N)))), .second, .val (.long (cc * ((perF ru dy (1 : Int64)) / (divF yd (powF N))))), .second, .val (.long ((cc * ((perF ru dy (1 : Int64)) % (divF yd (powF N)))) / (divF yd (powF N)))), .second, .val (.long (remF cc ((perF ru dy (1 : Int64)) % (divF yd (powF N))) (divF yd (powF N)))), .second, .unset, .unset] [(.long (perF ru dy (1 : Int64))), (.int (sigF cc))])) _
    refine st60 _ ?_
    refine XS.imul X60.here hx rfl (hb hby d3_197) rfl ?_
    refine XS.i2l X60.here hx rfl (hb hby d3_198) rfl ?_
    refine XS.goto X60.here hx rfl (pc0 := 199) (pc' := 203) rfl (hb hby d3_199) (by decide) (by decide) ?_
    show Steps p.tables e below (T60.setTop (mkF m 203 #[.val (.long cc), .second, .val (.long ru), .second, .val (.int rs), .val (.long dy), .second, .val (.int yd), .val (.int pl), .val (.int (tA pl rs)), .val (.long (powF N)), .second, .val (.long (1 : Int64)), .second, .val (.long (powF N)), .second, .val (.long (perF ru dy (1 : Int64))), .second, .val (.long (divF yd (powF N))), .second, .val (.long ((perF ru dy (1 : Int64)) / (divF yd (powF N)))), .second, .val (.long ((perF ru dy (1 : Int64)) % (divF yd (powF N)))), .second, .val (.long (cc * ((perF ru dy (1 : Int64)) / (divF yd (powF N))))), .second, .val (.long ((cc * ((perF ru dy (1 : Int64)) % (divF yd (powF N)))) / (divF yd (powF N)))), .second, .val (.long (remF cc ((perF ru dy (1 : Int64)) % (divF yd (powF N))) (divF yd (powF N)))), .second, .unset, .unset] [(.long (rupF cc (perF ru dy (1 : Int64))))])) _
    refine XS.lstore X60.here hx rfl (hb hby d3_203) rfl (l' := #[.val (.long cc), .second, .val (.long ru), .second, .val (.int rs), .val (.long dy), .second, .val (.int yd), .val (.int pl), .val (.int (tA pl rs)), .val (.long (powF N)), .second, .val (.long (1 : Int64)), .second, .val (.long (powF N)), .second, .val (.long (perF ru dy (1 : Int64))), .second, .val (.long (divF yd (powF N))), .second, .val (.long ((perF ru dy (1 : Int64)) / (divF yd (powF N)))), .second, .val (.long ((perF ru dy (1 : Int64)) % (divF yd (powF N)))), .second, .val (.long (cc * ((perF ru dy (1 : Int64)) / (divF yd (powF N))))), .second, .val (.long ((cc * ((perF ru dy (1 : Int64)) % (divF yd (powF N)))) / (divF yd (powF N)))), .second, .val (.long (remF cc ((perF ru dy (1 : Int64)) % (divF yd (powF N))) (divF yd (powF N)))), .second, .val (.long (rupF cc (perF ru dy (1 : Int64)))), .second]) rfl ?_
    refine XS.lload X60.here hx rfl (hb hby d3_205) rfl ?_
    refine XS.lload X60.here hx rfl (hb hby d3_207) rfl ?_
    show Steps p.tables e below (T60.setTop (mkF m 209 #[.val (.long cc), .second, .val (.long ru), .second, .val (.int rs), .val (.long dy), .second, .val (.int yd), .val (.int pl), .val (.int (tA pl rs)), .val (.long (powF N)), .second, .val (.long (1 : Int64)), .second, .val (.long (powF N)), .second, .val (.long (perF ru dy (1 : Int64))), .second, .val (.long (divF yd (powF N))), .second, .val (.long ((perF ru dy (1 : Int64)) / (divF yd (powF N)))), .second, .val (.long ((perF ru dy (1 : Int64)) % (divF yd (powF N)))), .second, .val (.long (cc * ((perF ru dy (1 : Int64)) / (divF yd (powF N))))), .second, .val (.long ((cc * ((perF ru dy (1 : Int64)) % (divF yd (powF N)))) / (divF yd (powF N)))), .second, .val (.long (remF cc ((perF ru dy (1 : Int64)) % (divF yd (powF N))) (divF yd (powF N)))), .second, .val (.long (rupF cc (perF ru dy (1 : Int64)))), .second] [(.long ((cc * ((perF ru dy (1 : Int64)) % (divF yd (powF N)))) / (divF yd (powF N)))), (.long (cc * ((perF ru dy (1 : Int64)) / (divF yd (powF N)))))])) _
    refine st61 _ ?_
    refine XS.ifNo X61.here hx rfl (hb hby d3_212) rfl ((if0 _ _).trans (feq hc212).1) ?_
    refine XS.lload X61.here hx rfl (hb hby d3_215) rfl ?_
    refine XS.lload X61.here hx rfl (hb hby d3_217) rfl ?_
    refine XS.ladd X61.here hx rfl (hb hby d3_219) rfl ?_
    refine XS.lload X61.here hx rfl (hb hby d3_220) rfl ?_
    show Steps p.tables e below (T61.setTop (mkF m 222 #[.val (.long cc), .second, .val (.long ru), .second, .val (.int rs), .val (.long dy), .second, .val (.int yd), .val (.int pl), .val (.int (tA pl rs)), .val (.long (powF N)), .second, .val (.long (1 : Int64)), .second, .val (.long (powF N)), .second, .val (.long (perF ru dy (1 : Int64))), .second, .val (.long (divF yd (powF N))), .second, .val (.long ((perF ru dy (1 : Int64)) / (divF yd (powF N)))), .second, .val (.long ((perF ru dy (1 : Int64)) % (divF yd (powF N)))), .second, .val (.long (cc * ((perF ru dy (1 : Int64)) / (divF yd (powF N))))), .second, .val (.long ((cc * ((perF ru dy (1 : Int64)) % (divF yd (powF N)))) / (divF yd (powF N)))), .second, .val (.long (remF cc ((perF ru dy (1 : Int64)) % (divF yd (powF N))) (divF yd (powF N)))), .second, .val (.long (rupF cc (perF ru dy (1 : Int64)))), .second] [(.long (rupF cc (perF ru dy (1 : Int64)))), (.long ((cc * ((perF ru dy (1 : Int64)) / (divF yd (powF N)))) + ((cc * ((perF ru dy (1 : Int64)) % (divF yd (powF N)))) / (divF yd (powF N)))))])) _
    refine st62 _ ?_
    refine XS.ifYes X62.here hx rfl (pc0 := 225) (pc' := 232) rfl (hb hby d3_225) rfl ((if0 _ _).trans (feq hc225).2) (by decide) (by decide) ?_
    refine XS.lload X62.here hx rfl (hb hby d3_232) rfl ?_
    refine XS.lload X62.here hx rfl (hb hby d3_234) rfl ?_
    refine XS.ladd X62.here hx rfl (hb hby d3_236) rfl ?_
    refine XS.lload X62.here hx rfl (hb hby d3_237) rfl ?_
    refine XS.ladd X62.here hx rfl (hb hby d3_239) rfl ?_
    show Steps p.tables e below (T62.setTop (mkF m 240 #[.val (.long cc), .second, .val (.long ru), .second, .val (.int rs), .val (.long dy), .second, .val (.int yd), .val (.int pl), .val (.int (tA pl rs)), .val (.long (powF N)), .second, .val (.long (1 : Int64)), .second, .val (.long (powF N)), .second, .val (.long (perF ru dy (1 : Int64))), .second, .val (.long (divF yd (powF N))), .second, .val (.long ((perF ru dy (1 : Int64)) / (divF yd (powF N)))), .second, .val (.long ((perF ru dy (1 : Int64)) % (divF yd (powF N)))), .second, .val (.long (cc * ((perF ru dy (1 : Int64)) / (divF yd (powF N))))), .second, .val (.long ((cc * ((perF ru dy (1 : Int64)) % (divF yd (powF N)))) / (divF yd (powF N)))), .second, .val (.long (remF cc ((perF ru dy (1 : Int64)) % (divF yd (powF N))) (divF yd (powF N)))), .second, .val (.long (rupF cc (perF ru dy (1 : Int64)))), .second] [(.long (sum3 (cc * ((perF ru dy (1 : Int64)) / (divF yd (powF N)))) ((cc * ((perF ru dy (1 : Int64)) % (divF yd (powF N)))) / (divF yd (powF N))) (rupF cc (perF ru dy (1 : Int64)))))])) _
    jvm_step X62.here [X62.here.top, hx, (hb hby d3_240), X62.method', Bd.returns, narrow]
    first | (intro acts; rw [hr _ acts rfl rfl rfl]) | rw [hr _ _ rfl rfl rfl]
    exact Steps.refl _
  · show QJ (sum3 (cc * ((perF ru dy (1 : Int64)) / (divF yd (powF N)))) ((cc * ((perF ru dy (1 : Int64)) % (divF yd (powF N)))) / (divF yd (powF N))) (rupF cc (perF ru dy (1 : Int64)))) h0 n0 _ T62.heap _
    rw [e62]
    exact ⟨rfl, N62, rfl⟩
def tensL : List Value := [(.long (1 : Int64)), (.long (10 : Int64)), (.long (100 : Int64)), (.long (1000 : Int64)), (.long (10000 : Int64)), (.long (100000 : Int64)), (.long (1000000 : Int64)), (.long (10000000 : Int64)), (.long (100000000 : Int64)), (.long (1000000000 : Int64)), (.long (10000000000 : Int64)), (.long (100000000000 : Int64)), (.long (1000000000000 : Int64)), (.long (10000000000000 : Int64)), (.long (100000000000000 : Int64)), (.long (1000000000000000 : Int64)), (.long (10000000000000000 : Int64)), (.long (100000000000000000 : Int64)), (.long (1000000000000000000 : Int64))]
theorem tens_at : ∀ N, N < 19 → tensL.getD N (.long (0 : Int64)) = .long (powF N) := by decide
set_option maxRecDepth 65536 in
set_option maxHeartbeats 40000000 in
theorem fill0 {p : Program} {l : Launch} {e : Env} {s : State} {m : MethodId} {args : Array Value} {below : List Frame} {meth : Method} {c : Code} {T0 : State} {Z : State} {a0 : Array Value} {h0 : Heap} {n0 : Nat} (cc : Int64) (rate days y pp ss : Int32) (X0 : Stand p l e room_1 s m args below meth c T0 [] 0 0) (hx : p.tables.exec = Jvm.exec) (hZ : Z.Warmed39 s.vm) (hw : ∀ d ∈ tables_1, d.before a0 Z = true) (hby : c.code = code) (hown : s.vm.findClass "com/example/syndicata/syndicata/AccrualAccruedUnitsPinLaw" = some m.cls) (e0 : T0.heap = h0) (Z0 : n0 ≤ h0.size) :
    ∃ (T' : State) (h' : Heap) (b : Addr) (kk : ClassId) (locs' : List Loc), Stand p l e room_1 s m args below meth c T' locs' 1 19 ∧ T'.heap = h' ∧ n0 ≤ h'.size ∧ Arv Z h' b kk .long (19 : Int32) tensL (.long (0 : Int64)) ∧ Fr n0 locs' ∧ ∀ target, Steps p.tables e below (T'.setTop (mkF m 131 #[.val (.long cc), .second, .val (.int rate), .val (.int days), .val (.int y), .val (.int pp), .val (.int ss), .val (.ref b), .unset, .unset, .unset, .unset, .unset, .unset, .unset, .unset, .unset, .unset, .unset, .unset, .unset, .unset, .unset, .unset, .unset, .unset, .unset, .unset, .unset, .unset, .unset, .unset] [])) target → Steps p.tables e below (T0.setTop (mkF m 0 #[.val (.long cc), .second, .val (.int rate), .val (.int days), .val (.int y), .val (.int pp), .val (.int ss), .unset, .unset, .unset, .unset, .unset, .unset, .unset, .unset, .unset, .unset, .unset, .unset, .unset, .unset, .unset, .unset, .unset, .unset, .unset, .unset, .unset, .unset, .unset, .unset, .unset] [])) target := by
  have N0 := Fr.nil n0
  obtain ⟨T63, h63, k63, X63, e63, E63, A63, st63⟩ := newP X0 hx hZ (hw _ (List.mem_of_getElem? (i := 0) rfl)) e0 (g := (mkF m 2 #[.val (.long cc), .second, .val (.int rate), .val (.int days), .val (.int y), .val (.int pp), .val (.int ss), .unset, .unset, .unset, .unset, .unset, .unset, .unset, .unset, .unset, .unset, .unset, .unset, .unset, .unset, .unset, .unset, .unset, .unset, .unset, .unset, .unset, .unset, .unset, .unset, .unset] [(.int (19 : Int32))])) rfl (hb hby at_2) rfl (by decide) (cap := 19) (by decide) (by decide) (by decide) (by decide)
  obtain ⟨b63, g63⟩ : ∃ z, z = h0.size := ⟨_, rfl⟩
  rw [← g63] at A63 st63
  have V_b63_63 : Arv Z h63 b63 k63 .long (19 : Int32) [(.long (0 : Int64)), (.long (0 : Int64)), (.long (0 : Int64)), (.long (0 : Int64)), (.long (0 : Int64)), (.long (0 : Int64)), (.long (0 : Int64)), (.long (0 : Int64)), (.long (0 : Int64)), (.long (0 : Int64)), (.long (0 : Int64)), (.long (0 : Int64)), (.long (0 : Int64)), (.long (0 : Int64)), (.long (0 : Int64)), (.long (0 : Int64)), (.long (0 : Int64)), (.long (0 : Int64)), (.long (0 : Int64))] (.long (0 : Int64)) := (Arv.new A63 (by decide)).pad (pad_rep [] (.long (0 : Int64)) 19)
  have g_b63 : n0 ≤ b63 := Nat.le_trans Z0 (Nat.le_of_eq g63.symm)
  have sz_b63 : h0.size ≤ b63 := (Nat.le_trans (Keep.refl h0 []).1 (Nat.le_of_eq g63.symm))
  have K63 : Keep h0 h63 [] := (Keep.refl h0 []).ext E63
  obtain ⟨cl_b63_7, Ar_b63, q_b63, S_b63, N_b63, H_b63, G_b63⟩ := V_b63_63
  have hin7 : ¬ ((0 : Int32) < 0 ∨ cl_b63_7.slots.size ≤ ((0 : Int32)).toNatClampNeg) := inb_of S_b63 ⟨by decide, by decide⟩
  obtain ⟨T64, h64, X64, e64, W64, st64⟩ := stJ X63 hx hZ e63 Ar_b63 (j := (0 : Int32)) hin7 (g := (mkF m 7 #[.val (.long cc), .second, .val (.int rate), .val (.int days), .val (.int y), .val (.int pp), .val (.int ss), .unset, .unset, .unset, .unset, .unset, .unset, .unset, .unset, .unset, .unset, .unset, .unset, .unset, .unset, .unset, .unset, .unset, .unset, .unset, .unset, .unset, .unset, .unset, .unset, .unset] [(.long (1 : Int64)), (.int (0 : Int32)), (.ref b63), (.ref b63)])) rfl rfl (hb hby at_7)
  have V_b63_64 := Arv.set Ar_b63 q_b63 S_b63 N_b63 H_b63 G_b63 rfl W64 0 rfl (Nat.le_of_ble_eq_true rfl)
  have N64 := Fr.snoc X64 N0 g_b63
  have K64 : Keep h0 h64 [] := K63.wr W64 (Or.inr sz_b63)
  obtain ⟨cl_b63_13, Ar_b63, q_b63, S_b63, N_b63, H_b63, G_b63⟩ := V_b63_64
  have hin13 : ¬ ((1 : Int32) < 0 ∨ cl_b63_13.slots.size ≤ ((1 : Int32)).toNatClampNeg) := inb_of S_b63 ⟨by decide, by decide⟩
  obtain ⟨T65, h65, X65, e65, W65, st65⟩ := stJ X64 hx hZ e64 Ar_b63 (j := (1 : Int32)) hin13 (g := (mkF m 13 #[.val (.long cc), .second, .val (.int rate), .val (.int days), .val (.int y), .val (.int pp), .val (.int ss), .unset, .unset, .unset, .unset, .unset, .unset, .unset, .unset, .unset, .unset, .unset, .unset, .unset, .unset, .unset, .unset, .unset, .unset, .unset, .unset, .unset, .unset, .unset, .unset, .unset] [(.long (10 : Int64)), (.int (1 : Int32)), (.ref b63), (.ref b63)])) rfl rfl (hb hby at_13)
  have V_b63_65 := Arv.set Ar_b63 q_b63 S_b63 N_b63 H_b63 G_b63 rfl W65 1 rfl (Nat.le_of_ble_eq_true rfl)
  have N65 := Fr.snoc X65 N64 g_b63
  have K65 : Keep h0 h65 [] := K64.wr W65 (Or.inr sz_b63)
  obtain ⟨cl_b63_19, Ar_b63, q_b63, S_b63, N_b63, H_b63, G_b63⟩ := V_b63_65
  have hin19 : ¬ ((2 : Int32) < 0 ∨ cl_b63_19.slots.size ≤ ((2 : Int32)).toNatClampNeg) := inb_of S_b63 ⟨by decide, by decide⟩
  obtain ⟨T66, h66, X66, e66, W66, st66⟩ := stJ X65 hx hZ e65 Ar_b63 (j := (2 : Int32)) hin19 (g := (mkF m 19 #[.val (.long cc), .second, .val (.int rate), .val (.int days), .val (.int y), .val (.int pp), .val (.int ss), .unset, .unset, .unset, .unset, .unset, .unset, .unset, .unset, .unset, .unset, .unset, .unset, .unset, .unset, .unset, .unset, .unset, .unset, .unset, .unset, .unset, .unset, .unset, .unset, .unset] [(.long (100 : Int64)), (.int (2 : Int32)), (.ref b63), (.ref b63)])) rfl rfl (hb hby at_19)
  have V_b63_66 := Arv.set Ar_b63 q_b63 S_b63 N_b63 H_b63 G_b63 rfl W66 2 rfl (Nat.le_of_ble_eq_true rfl)
  have N66 := Fr.snoc X66 N65 g_b63
  have K66 : Keep h0 h66 [] := K65.wr W66 (Or.inr sz_b63)
  obtain ⟨cl_b63_25, Ar_b63, q_b63, S_b63, N_b63, H_b63, G_b63⟩ := V_b63_66
  have hin25 : ¬ ((3 : Int32) < 0 ∨ cl_b63_25.slots.size ≤ ((3 : Int32)).toNatClampNeg) := inb_of S_b63 ⟨by decide, by decide⟩
  obtain ⟨T67, h67, X67, e67, W67, st67⟩ := stJ X66 hx hZ e66 Ar_b63 (j := (3 : Int32)) hin25 (g := (mkF m 25 #[.val (.long cc), .second, .val (.int rate), .val (.int days), .val (.int y), .val (.int pp), .val (.int ss), .unset, .unset, .unset, .unset, .unset, .unset, .unset, .unset, .unset, .unset, .unset, .unset, .unset, .unset, .unset, .unset, .unset, .unset, .unset, .unset, .unset, .unset, .unset, .unset, .unset] [(.long (1000 : Int64)), (.int (3 : Int32)), (.ref b63), (.ref b63)])) rfl rfl (hb hby at_25)
  have V_b63_67 := Arv.set Ar_b63 q_b63 S_b63 N_b63 H_b63 G_b63 rfl W67 3 rfl (Nat.le_of_ble_eq_true rfl)
  have N67 := Fr.snoc X67 N66 g_b63
  have K67 : Keep h0 h67 [] := K66.wr W67 (Or.inr sz_b63)
  obtain ⟨cl_b63_31, Ar_b63, q_b63, S_b63, N_b63, H_b63, G_b63⟩ := V_b63_67
  have hin31 : ¬ ((4 : Int32) < 0 ∨ cl_b63_31.slots.size ≤ ((4 : Int32)).toNatClampNeg) := inb_of S_b63 ⟨by decide, by decide⟩
  obtain ⟨T68, h68, X68, e68, W68, st68⟩ := stJ X67 hx hZ e67 Ar_b63 (j := (4 : Int32)) hin31 (g := (mkF m 31 #[.val (.long cc), .second, .val (.int rate), .val (.int days), .val (.int y), .val (.int pp), .val (.int ss), .unset, .unset, .unset, .unset, .unset, .unset, .unset, .unset, .unset, .unset, .unset, .unset, .unset, .unset, .unset, .unset, .unset, .unset, .unset, .unset, .unset, .unset, .unset, .unset, .unset] [(.long (10000 : Int64)), (.int (4 : Int32)), (.ref b63), (.ref b63)])) rfl rfl (hb hby at_31)
  have V_b63_68 := Arv.set Ar_b63 q_b63 S_b63 N_b63 H_b63 G_b63 rfl W68 4 rfl (Nat.le_of_ble_eq_true rfl)
  have N68 := Fr.snoc X68 N67 g_b63
  have K68 : Keep h0 h68 [] := K67.wr W68 (Or.inr sz_b63)
  obtain ⟨cl_b63_37, Ar_b63, q_b63, S_b63, N_b63, H_b63, G_b63⟩ := V_b63_68
  have hin37 : ¬ ((5 : Int32) < 0 ∨ cl_b63_37.slots.size ≤ ((5 : Int32)).toNatClampNeg) := inb_of S_b63 ⟨by decide, by decide⟩
  obtain ⟨T69, h69, X69, e69, W69, st69⟩ := stJ X68 hx hZ e68 Ar_b63 (j := (5 : Int32)) hin37 (g := (mkF m 37 #[.val (.long cc), .second, .val (.int rate), .val (.int days), .val (.int y), .val (.int pp), .val (.int ss), .unset, .unset, .unset, .unset, .unset, .unset, .unset, .unset, .unset, .unset, .unset, .unset, .unset, .unset, .unset, .unset, .unset, .unset, .unset, .unset, .unset, .unset, .unset, .unset, .unset] [(.long (100000 : Int64)), (.int (5 : Int32)), (.ref b63), (.ref b63)])) rfl rfl (hb hby at_37)
  have V_b63_69 := Arv.set Ar_b63 q_b63 S_b63 N_b63 H_b63 G_b63 rfl W69 5 rfl (Nat.le_of_ble_eq_true rfl)
  have N69 := Fr.snoc X69 N68 g_b63
  have K69 : Keep h0 h69 [] := K68.wr W69 (Or.inr sz_b63)
  obtain ⟨cl_b63_44, Ar_b63, q_b63, S_b63, N_b63, H_b63, G_b63⟩ := V_b63_69
  have hin44 : ¬ ((6 : Int32) < 0 ∨ cl_b63_44.slots.size ≤ ((6 : Int32)).toNatClampNeg) := inb_of S_b63 ⟨by decide, by decide⟩
  obtain ⟨T70, h70, X70, e70, W70, st70⟩ := stJ X69 hx hZ e69 Ar_b63 (j := (6 : Int32)) hin44 (g := (mkF m 44 #[.val (.long cc), .second, .val (.int rate), .val (.int days), .val (.int y), .val (.int pp), .val (.int ss), .unset, .unset, .unset, .unset, .unset, .unset, .unset, .unset, .unset, .unset, .unset, .unset, .unset, .unset, .unset, .unset, .unset, .unset, .unset, .unset, .unset, .unset, .unset, .unset, .unset] [(.long (1000000 : Int64)), (.int (6 : Int32)), (.ref b63), (.ref b63)])) rfl rfl (hb hby at_44)
  have V_b63_70 := Arv.set Ar_b63 q_b63 S_b63 N_b63 H_b63 G_b63 rfl W70 6 rfl (Nat.le_of_ble_eq_true rfl)
  have N70 := Fr.snoc X70 N69 g_b63
  have K70 : Keep h0 h70 [] := K69.wr W70 (Or.inr sz_b63)
  obtain ⟨cl_b63_51, Ar_b63, q_b63, S_b63, N_b63, H_b63, G_b63⟩ := V_b63_70
  have hin51 : ¬ ((7 : Int32) < 0 ∨ cl_b63_51.slots.size ≤ ((7 : Int32)).toNatClampNeg) := inb_of S_b63 ⟨by decide, by decide⟩
  obtain ⟨T71, h71, X71, e71, W71, st71⟩ := stJ X70 hx hZ e70 Ar_b63 (j := (7 : Int32)) hin51 (g := (mkF m 51 #[.val (.long cc), .second, .val (.int rate), .val (.int days), .val (.int y), .val (.int pp), .val (.int ss), .unset, .unset, .unset, .unset, .unset, .unset, .unset, .unset, .unset, .unset, .unset, .unset, .unset, .unset, .unset, .unset, .unset, .unset, .unset, .unset, .unset, .unset, .unset, .unset, .unset] [(.long (10000000 : Int64)), (.int (7 : Int32)), (.ref b63), (.ref b63)])) rfl rfl (hb hby at_51)
  have V_b63_71 := Arv.set Ar_b63 q_b63 S_b63 N_b63 H_b63 G_b63 rfl W71 7 rfl (Nat.le_of_ble_eq_true rfl)
  have N71 := Fr.snoc X71 N70 g_b63
  have K71 : Keep h0 h71 [] := K70.wr W71 (Or.inr sz_b63)
  obtain ⟨cl_b63_58, Ar_b63, q_b63, S_b63, N_b63, H_b63, G_b63⟩ := V_b63_71
  have hin58 : ¬ ((8 : Int32) < 0 ∨ cl_b63_58.slots.size ≤ ((8 : Int32)).toNatClampNeg) := inb_of S_b63 ⟨by decide, by decide⟩
  obtain ⟨T72, h72, X72, e72, W72, st72⟩ := stJ X71 hx hZ e71 Ar_b63 (j := (8 : Int32)) hin58 (g := (mkF m 58 #[.val (.long cc), .second, .val (.int rate), .val (.int days), .val (.int y), .val (.int pp), .val (.int ss), .unset, .unset, .unset, .unset, .unset, .unset, .unset, .unset, .unset, .unset, .unset, .unset, .unset, .unset, .unset, .unset, .unset, .unset, .unset, .unset, .unset, .unset, .unset, .unset, .unset] [(.long (100000000 : Int64)), (.int (8 : Int32)), (.ref b63), (.ref b63)])) rfl rfl (hb hby at_58)
  have V_b63_72 := Arv.set Ar_b63 q_b63 S_b63 N_b63 H_b63 G_b63 rfl W72 8 rfl (Nat.le_of_ble_eq_true rfl)
  have N72 := Fr.snoc X72 N71 g_b63
  have K72 : Keep h0 h72 [] := K71.wr W72 (Or.inr sz_b63)
  obtain ⟨cl_b63_65, Ar_b63, q_b63, S_b63, N_b63, H_b63, G_b63⟩ := V_b63_72
  have hin65 : ¬ ((9 : Int32) < 0 ∨ cl_b63_65.slots.size ≤ ((9 : Int32)).toNatClampNeg) := inb_of S_b63 ⟨by decide, by decide⟩
  obtain ⟨T73, h73, X73, e73, W73, st73⟩ := stJ X72 hx hZ e72 Ar_b63 (j := (9 : Int32)) hin65 (g := (mkF m 65 #[.val (.long cc), .second, .val (.int rate), .val (.int days), .val (.int y), .val (.int pp), .val (.int ss), .unset, .unset, .unset, .unset, .unset, .unset, .unset, .unset, .unset, .unset, .unset, .unset, .unset, .unset, .unset, .unset, .unset, .unset, .unset, .unset, .unset, .unset, .unset, .unset, .unset] [(.long (1000000000 : Int64)), (.int (9 : Int32)), (.ref b63), (.ref b63)])) rfl rfl (hb hby at_65)
  have V_b63_73 := Arv.set Ar_b63 q_b63 S_b63 N_b63 H_b63 G_b63 rfl W73 9 rfl (Nat.le_of_ble_eq_true rfl)
  have N73 := Fr.snoc X73 N72 g_b63
  have K73 : Keep h0 h73 [] := K72.wr W73 (Or.inr sz_b63)
  obtain ⟨cl_b63_72, Ar_b63, q_b63, S_b63, N_b63, H_b63, G_b63⟩ := V_b63_73
  have hin72 : ¬ ((10 : Int32) < 0 ∨ cl_b63_72.slots.size ≤ ((10 : Int32)).toNatClampNeg) := inb_of S_b63 ⟨by decide, by decide⟩
  obtain ⟨T74, h74, X74, e74, W74, st74⟩ := stJ X73 hx hZ e73 Ar_b63 (j := (10 : Int32)) hin72 (g := (mkF m 72 #[.val (.long cc), .second, .val (.int rate), .val (.int days), .val (.int y), .val (.int pp), .val (.int ss), .unset, .unset, .unset, .unset, .unset, .unset, .unset, .unset, .unset, .unset, .unset, .unset, .unset, .unset, .unset, .unset, .unset, .unset, .unset, .unset, .unset, .unset, .unset, .unset, .unset] [(.long (10000000000 : Int64)), (.int (10 : Int32)), (.ref b63), (.ref b63)])) rfl rfl (hb hby at_72)
  have V_b63_74 := Arv.set Ar_b63 q_b63 S_b63 N_b63 H_b63 G_b63 rfl W74 10 rfl (Nat.le_of_ble_eq_true rfl)
  have N74 := Fr.snoc X74 N73 g_b63
  have K74 : Keep h0 h74 [] := K73.wr W74 (Or.inr sz_b63)
  obtain ⟨cl_b63_79, Ar_b63, q_b63, S_b63, N_b63, H_b63, G_b63⟩ := V_b63_74
  have hin79 : ¬ ((11 : Int32) < 0 ∨ cl_b63_79.slots.size ≤ ((11 : Int32)).toNatClampNeg) := inb_of S_b63 ⟨by decide, by decide⟩
  obtain ⟨T75, h75, X75, e75, W75, st75⟩ := stJ X74 hx hZ e74 Ar_b63 (j := (11 : Int32)) hin79 (g := (mkF m 79 #[.val (.long cc), .second, .val (.int rate), .val (.int days), .val (.int y), .val (.int pp), .val (.int ss), .unset, .unset, .unset, .unset, .unset, .unset, .unset, .unset, .unset, .unset, .unset, .unset, .unset, .unset, .unset, .unset, .unset, .unset, .unset, .unset, .unset, .unset, .unset, .unset, .unset] [(.long (100000000000 : Int64)), (.int (11 : Int32)), (.ref b63), (.ref b63)])) rfl rfl (hb hby at_79)
  have V_b63_75 := Arv.set Ar_b63 q_b63 S_b63 N_b63 H_b63 G_b63 rfl W75 11 rfl (Nat.le_of_ble_eq_true rfl)
  have N75 := Fr.snoc X75 N74 g_b63
  have K75 : Keep h0 h75 [] := K74.wr W75 (Or.inr sz_b63)
  obtain ⟨cl_b63_86, Ar_b63, q_b63, S_b63, N_b63, H_b63, G_b63⟩ := V_b63_75
  have hin86 : ¬ ((12 : Int32) < 0 ∨ cl_b63_86.slots.size ≤ ((12 : Int32)).toNatClampNeg) := inb_of S_b63 ⟨by decide, by decide⟩
  obtain ⟨T76, h76, X76, e76, W76, st76⟩ := stJ X75 hx hZ e75 Ar_b63 (j := (12 : Int32)) hin86 (g := (mkF m 86 #[.val (.long cc), .second, .val (.int rate), .val (.int days), .val (.int y), .val (.int pp), .val (.int ss), .unset, .unset, .unset, .unset, .unset, .unset, .unset, .unset, .unset, .unset, .unset, .unset, .unset, .unset, .unset, .unset, .unset, .unset, .unset, .unset, .unset, .unset, .unset, .unset, .unset] [(.long (1000000000000 : Int64)), (.int (12 : Int32)), (.ref b63), (.ref b63)])) rfl rfl (hb hby at_86)
  have V_b63_76 := Arv.set Ar_b63 q_b63 S_b63 N_b63 H_b63 G_b63 rfl W76 12 rfl (Nat.le_of_ble_eq_true rfl)
  have N76 := Fr.snoc X76 N75 g_b63
  have K76 : Keep h0 h76 [] := K75.wr W76 (Or.inr sz_b63)
  obtain ⟨cl_b63_93, Ar_b63, q_b63, S_b63, N_b63, H_b63, G_b63⟩ := V_b63_76
  have hin93 : ¬ ((13 : Int32) < 0 ∨ cl_b63_93.slots.size ≤ ((13 : Int32)).toNatClampNeg) := inb_of S_b63 ⟨by decide, by decide⟩
  obtain ⟨T77, h77, X77, e77, W77, st77⟩ := stJ X76 hx hZ e76 Ar_b63 (j := (13 : Int32)) hin93 (g := (mkF m 93 #[.val (.long cc), .second, .val (.int rate), .val (.int days), .val (.int y), .val (.int pp), .val (.int ss), .unset, .unset, .unset, .unset, .unset, .unset, .unset, .unset, .unset, .unset, .unset, .unset, .unset, .unset, .unset, .unset, .unset, .unset, .unset, .unset, .unset, .unset, .unset, .unset, .unset] [(.long (10000000000000 : Int64)), (.int (13 : Int32)), (.ref b63), (.ref b63)])) rfl rfl (hb hby at_93)
  have V_b63_77 := Arv.set Ar_b63 q_b63 S_b63 N_b63 H_b63 G_b63 rfl W77 13 rfl (Nat.le_of_ble_eq_true rfl)
  have N77 := Fr.snoc X77 N76 g_b63
  have K77 : Keep h0 h77 [] := K76.wr W77 (Or.inr sz_b63)
  obtain ⟨cl_b63_100, Ar_b63, q_b63, S_b63, N_b63, H_b63, G_b63⟩ := V_b63_77
  have hin100 : ¬ ((14 : Int32) < 0 ∨ cl_b63_100.slots.size ≤ ((14 : Int32)).toNatClampNeg) := inb_of S_b63 ⟨by decide, by decide⟩
  obtain ⟨T78, h78, X78, e78, W78, st78⟩ := stJ X77 hx hZ e77 Ar_b63 (j := (14 : Int32)) hin100 (g := (mkF m 100 #[.val (.long cc), .second, .val (.int rate), .val (.int days), .val (.int y), .val (.int pp), .val (.int ss), .unset, .unset, .unset, .unset, .unset, .unset, .unset, .unset, .unset, .unset, .unset, .unset, .unset, .unset, .unset, .unset, .unset, .unset, .unset, .unset, .unset, .unset, .unset, .unset, .unset] [(.long (100000000000000 : Int64)), (.int (14 : Int32)), (.ref b63), (.ref b63)])) rfl rfl (hb hby at_100)
  have V_b63_78 := Arv.set Ar_b63 q_b63 S_b63 N_b63 H_b63 G_b63 rfl W78 14 rfl (Nat.le_of_ble_eq_true rfl)
  have N78 := Fr.snoc X78 N77 g_b63
  have K78 : Keep h0 h78 [] := K77.wr W78 (Or.inr sz_b63)
  obtain ⟨cl_b63_107, Ar_b63, q_b63, S_b63, N_b63, H_b63, G_b63⟩ := V_b63_78
  have hin107 : ¬ ((15 : Int32) < 0 ∨ cl_b63_107.slots.size ≤ ((15 : Int32)).toNatClampNeg) := inb_of S_b63 ⟨by decide, by decide⟩
  obtain ⟨T79, h79, X79, e79, W79, st79⟩ := stJ X78 hx hZ e78 Ar_b63 (j := (15 : Int32)) hin107 (g := (mkF m 107 #[.val (.long cc), .second, .val (.int rate), .val (.int days), .val (.int y), .val (.int pp), .val (.int ss), .unset, .unset, .unset, .unset, .unset, .unset, .unset, .unset, .unset, .unset, .unset, .unset, .unset, .unset, .unset, .unset, .unset, .unset, .unset, .unset, .unset, .unset, .unset, .unset, .unset] [(.long (1000000000000000 : Int64)), (.int (15 : Int32)), (.ref b63), (.ref b63)])) rfl rfl (hb hby at_107)
  have V_b63_79 := Arv.set Ar_b63 q_b63 S_b63 N_b63 H_b63 G_b63 rfl W79 15 rfl (Nat.le_of_ble_eq_true rfl)
  have N79 := Fr.snoc X79 N78 g_b63
  have K79 : Keep h0 h79 [] := K78.wr W79 (Or.inr sz_b63)
  obtain ⟨cl_b63_114, Ar_b63, q_b63, S_b63, N_b63, H_b63, G_b63⟩ := V_b63_79
  have hin114 : ¬ ((16 : Int32) < 0 ∨ cl_b63_114.slots.size ≤ ((16 : Int32)).toNatClampNeg) := inb_of S_b63 ⟨by decide, by decide⟩
  obtain ⟨T80, h80, X80, e80, W80, st80⟩ := stJ X79 hx hZ e79 Ar_b63 (j := (16 : Int32)) hin114 (g := (mkF m 114 #[.val (.long cc), .second, .val (.int rate), .val (.int days), .val (.int y), .val (.int pp), .val (.int ss), .unset, .unset, .unset, .unset, .unset, .unset, .unset, .unset, .unset, .unset, .unset, .unset, .unset, .unset, .unset, .unset, .unset, .unset, .unset, .unset, .unset, .unset, .unset, .unset, .unset] [(.long (10000000000000000 : Int64)), (.int (16 : Int32)), (.ref b63), (.ref b63)])) rfl rfl (hb hby at_114)
  have V_b63_80 := Arv.set Ar_b63 q_b63 S_b63 N_b63 H_b63 G_b63 rfl W80 16 rfl (Nat.le_of_ble_eq_true rfl)
  have N80 := Fr.snoc X80 N79 g_b63
  have K80 : Keep h0 h80 [] := K79.wr W80 (Or.inr sz_b63)
  obtain ⟨cl_b63_121, Ar_b63, q_b63, S_b63, N_b63, H_b63, G_b63⟩ := V_b63_80
  have hin121 : ¬ ((17 : Int32) < 0 ∨ cl_b63_121.slots.size ≤ ((17 : Int32)).toNatClampNeg) := inb_of S_b63 ⟨by decide, by decide⟩
  obtain ⟨T81, h81, X81, e81, W81, st81⟩ := stJ X80 hx hZ e80 Ar_b63 (j := (17 : Int32)) hin121 (g := (mkF m 121 #[.val (.long cc), .second, .val (.int rate), .val (.int days), .val (.int y), .val (.int pp), .val (.int ss), .unset, .unset, .unset, .unset, .unset, .unset, .unset, .unset, .unset, .unset, .unset, .unset, .unset, .unset, .unset, .unset, .unset, .unset, .unset, .unset, .unset, .unset, .unset, .unset, .unset] [(.long (100000000000000000 : Int64)), (.int (17 : Int32)), (.ref b63), (.ref b63)])) rfl rfl (hb hby at_121)
  have V_b63_81 := Arv.set Ar_b63 q_b63 S_b63 N_b63 H_b63 G_b63 rfl W81 17 rfl (Nat.le_of_ble_eq_true rfl)
  have N81 := Fr.snoc X81 N80 g_b63
  have K81 : Keep h0 h81 [] := K80.wr W81 (Or.inr sz_b63)
  obtain ⟨cl_b63_128, Ar_b63, q_b63, S_b63, N_b63, H_b63, G_b63⟩ := V_b63_81
  have hin128 : ¬ ((18 : Int32) < 0 ∨ cl_b63_128.slots.size ≤ ((18 : Int32)).toNatClampNeg) := inb_of S_b63 ⟨by decide, by decide⟩
  obtain ⟨T82, h82, X82, e82, W82, st82⟩ := stJ X81 hx hZ e81 Ar_b63 (j := (18 : Int32)) hin128 (g := (mkF m 128 #[.val (.long cc), .second, .val (.int rate), .val (.int days), .val (.int y), .val (.int pp), .val (.int ss), .unset, .unset, .unset, .unset, .unset, .unset, .unset, .unset, .unset, .unset, .unset, .unset, .unset, .unset, .unset, .unset, .unset, .unset, .unset, .unset, .unset, .unset, .unset, .unset, .unset] [(.long (1000000000000000000 : Int64)), (.int (18 : Int32)), (.ref b63), (.ref b63)])) rfl rfl (hb hby at_128)
  have V_b63_82 := Arv.set Ar_b63 q_b63 S_b63 N_b63 H_b63 G_b63 rfl W82 18 rfl (Nat.le_of_ble_eq_true rfl)
  have N82 := Fr.snoc X82 N81 g_b63
  have K82 : Keep h0 h82 [] := K81.wr W82 (Or.inr sz_b63)
  refine ⟨_, _, _, _, _, X82, e82, Nat.le_trans Z0 K82.1, V_b63_82, N82, fun target kt => ?_⟩
  show Steps p.tables e below (T0.setTop (mkF m 0 #[.val (.long cc), .second, .val (.int rate), .val (.int days), .val (.int y), .val (.int pp), .val (.int ss), .unset, .unset, .unset, .unset, .unset, .unset, .unset, .unset, .unset, .unset, .unset, .unset, .unset, .unset, .unset, .unset, .unset, .unset, .unset, .unset, .unset, .unset, .unset, .unset, .unset] [])) _
  refine XS.bipush X0.here hx rfl (hb hby at_0) ?_
  show Steps p.tables e below (T0.setTop (mkF m 2 #[.val (.long cc), .second, .val (.int rate), .val (.int days), .val (.int y), .val (.int pp), .val (.int ss), .unset, .unset, .unset, .unset, .unset, .unset, .unset, .unset, .unset, .unset, .unset, .unset, .unset, .unset, .unset, .unset, .unset, .unset, .unset, .unset, .unset, .unset, .unset, .unset, .unset] [(.int (19 : Int32))])) _
  refine st63 _ ?_
  refine XS.dup X63.here hx rfl (hb hby at_4) rfl rfl ?_
  refine XS.iconst X63.here hx rfl (hb hby at_5) ?_
  refine XS.lconst X63.here hx rfl (hb hby at_6) ?_
  show Steps p.tables e below (T63.setTop (mkF m 7 #[.val (.long cc), .second, .val (.int rate), .val (.int days), .val (.int y), .val (.int pp), .val (.int ss), .unset, .unset, .unset, .unset, .unset, .unset, .unset, .unset, .unset, .unset, .unset, .unset, .unset, .unset, .unset, .unset, .unset, .unset, .unset, .unset, .unset, .unset, .unset, .unset, .unset] [(.long (1 : Int64)), (.int (0 : Int32)), (.ref b63), (.ref b63)])) _
  refine st64 _ ?_
  refine XS.dup X64.here hx rfl (hb hby at_8) rfl rfl ?_
  refine XS.iconst X64.here hx rfl (hb hby at_9) ?_
  refine X64.ldc2Long hx hown (mvT hZ (hw _ (List.mem_of_getElem? (i := 1) rfl))) (g := (mkF m 10 #[.val (.long cc), .second, .val (.int rate), .val (.int days), .val (.int y), .val (.int pp), .val (.int ss), .unset, .unset, .unset, .unset, .unset, .unset, .unset, .unset, .unset, .unset, .unset, .unset, .unset, .unset, .unset, .unset, .unset, .unset, .unset, .unset, .unset, .unset, .unset, .unset, .unset] [(.int (1 : Int32)), (.ref b63), (.ref b63)])) rfl (hb hby at_10) _ ?_
  show Steps p.tables e below (T64.setTop (mkF m 13 #[.val (.long cc), .second, .val (.int rate), .val (.int days), .val (.int y), .val (.int pp), .val (.int ss), .unset, .unset, .unset, .unset, .unset, .unset, .unset, .unset, .unset, .unset, .unset, .unset, .unset, .unset, .unset, .unset, .unset, .unset, .unset, .unset, .unset, .unset, .unset, .unset, .unset] [(.long (10 : Int64)), (.int (1 : Int32)), (.ref b63), (.ref b63)])) _
  refine st65 _ ?_
  refine XS.dup X65.here hx rfl (hb hby at_14) rfl rfl ?_
  refine XS.iconst X65.here hx rfl (hb hby at_15) ?_
  refine X65.ldc2Long hx hown (mvT hZ (hw _ (List.mem_of_getElem? (i := 2) rfl))) (g := (mkF m 16 #[.val (.long cc), .second, .val (.int rate), .val (.int days), .val (.int y), .val (.int pp), .val (.int ss), .unset, .unset, .unset, .unset, .unset, .unset, .unset, .unset, .unset, .unset, .unset, .unset, .unset, .unset, .unset, .unset, .unset, .unset, .unset, .unset, .unset, .unset, .unset, .unset, .unset] [(.int (2 : Int32)), (.ref b63), (.ref b63)])) rfl (hb hby at_16) _ ?_
  show Steps p.tables e below (T65.setTop (mkF m 19 #[.val (.long cc), .second, .val (.int rate), .val (.int days), .val (.int y), .val (.int pp), .val (.int ss), .unset, .unset, .unset, .unset, .unset, .unset, .unset, .unset, .unset, .unset, .unset, .unset, .unset, .unset, .unset, .unset, .unset, .unset, .unset, .unset, .unset, .unset, .unset, .unset, .unset] [(.long (100 : Int64)), (.int (2 : Int32)), (.ref b63), (.ref b63)])) _
  refine st66 _ ?_
  refine XS.dup X66.here hx rfl (hb hby at_20) rfl rfl ?_
  refine XS.iconst X66.here hx rfl (hb hby at_21) ?_
  refine X66.ldc2Long hx hown (mvT hZ (hw _ (List.mem_of_getElem? (i := 3) rfl))) (g := (mkF m 22 #[.val (.long cc), .second, .val (.int rate), .val (.int days), .val (.int y), .val (.int pp), .val (.int ss), .unset, .unset, .unset, .unset, .unset, .unset, .unset, .unset, .unset, .unset, .unset, .unset, .unset, .unset, .unset, .unset, .unset, .unset, .unset, .unset, .unset, .unset, .unset, .unset, .unset] [(.int (3 : Int32)), (.ref b63), (.ref b63)])) rfl (hb hby at_22) _ ?_
  show Steps p.tables e below (T66.setTop (mkF m 25 #[.val (.long cc), .second, .val (.int rate), .val (.int days), .val (.int y), .val (.int pp), .val (.int ss), .unset, .unset, .unset, .unset, .unset, .unset, .unset, .unset, .unset, .unset, .unset, .unset, .unset, .unset, .unset, .unset, .unset, .unset, .unset, .unset, .unset, .unset, .unset, .unset, .unset] [(.long (1000 : Int64)), (.int (3 : Int32)), (.ref b63), (.ref b63)])) _
  refine st67 _ ?_
  refine XS.dup X67.here hx rfl (hb hby at_26) rfl rfl ?_
  refine XS.iconst X67.here hx rfl (hb hby at_27) ?_
  refine X67.ldc2Long hx hown (mvT hZ (hw _ (List.mem_of_getElem? (i := 4) rfl))) (g := (mkF m 28 #[.val (.long cc), .second, .val (.int rate), .val (.int days), .val (.int y), .val (.int pp), .val (.int ss), .unset, .unset, .unset, .unset, .unset, .unset, .unset, .unset, .unset, .unset, .unset, .unset, .unset, .unset, .unset, .unset, .unset, .unset, .unset, .unset, .unset, .unset, .unset, .unset, .unset] [(.int (4 : Int32)), (.ref b63), (.ref b63)])) rfl (hb hby at_28) _ ?_
  show Steps p.tables e below (T67.setTop (mkF m 31 #[.val (.long cc), .second, .val (.int rate), .val (.int days), .val (.int y), .val (.int pp), .val (.int ss), .unset, .unset, .unset, .unset, .unset, .unset, .unset, .unset, .unset, .unset, .unset, .unset, .unset, .unset, .unset, .unset, .unset, .unset, .unset, .unset, .unset, .unset, .unset, .unset, .unset] [(.long (10000 : Int64)), (.int (4 : Int32)), (.ref b63), (.ref b63)])) _
  refine st68 _ ?_
  refine XS.dup X68.here hx rfl (hb hby at_32) rfl rfl ?_
  refine XS.iconst X68.here hx rfl (hb hby at_33) ?_
  refine X68.ldc2Long hx hown (mvT hZ (hw _ (List.mem_of_getElem? (i := 5) rfl))) (g := (mkF m 34 #[.val (.long cc), .second, .val (.int rate), .val (.int days), .val (.int y), .val (.int pp), .val (.int ss), .unset, .unset, .unset, .unset, .unset, .unset, .unset, .unset, .unset, .unset, .unset, .unset, .unset, .unset, .unset, .unset, .unset, .unset, .unset, .unset, .unset, .unset, .unset, .unset, .unset] [(.int (5 : Int32)), (.ref b63), (.ref b63)])) rfl (hb hby at_34) _ ?_
  show Steps p.tables e below (T68.setTop (mkF m 37 #[.val (.long cc), .second, .val (.int rate), .val (.int days), .val (.int y), .val (.int pp), .val (.int ss), .unset, .unset, .unset, .unset, .unset, .unset, .unset, .unset, .unset, .unset, .unset, .unset, .unset, .unset, .unset, .unset, .unset, .unset, .unset, .unset, .unset, .unset, .unset, .unset, .unset] [(.long (100000 : Int64)), (.int (5 : Int32)), (.ref b63), (.ref b63)])) _
  refine st69 _ ?_
  refine XS.dup X69.here hx rfl (hb hby at_38) rfl rfl ?_
  refine XS.bipush X69.here hx rfl (hb hby at_39) ?_
  refine X69.ldc2Long hx hown (mvT hZ (hw _ (List.mem_of_getElem? (i := 6) rfl))) (g := (mkF m 41 #[.val (.long cc), .second, .val (.int rate), .val (.int days), .val (.int y), .val (.int pp), .val (.int ss), .unset, .unset, .unset, .unset, .unset, .unset, .unset, .unset, .unset, .unset, .unset, .unset, .unset, .unset, .unset, .unset, .unset, .unset, .unset, .unset, .unset, .unset, .unset, .unset, .unset] [(.int (6 : Int32)), (.ref b63), (.ref b63)])) rfl (hb hby at_41) _ ?_
  show Steps p.tables e below (T69.setTop (mkF m 44 #[.val (.long cc), .second, .val (.int rate), .val (.int days), .val (.int y), .val (.int pp), .val (.int ss), .unset, .unset, .unset, .unset, .unset, .unset, .unset, .unset, .unset, .unset, .unset, .unset, .unset, .unset, .unset, .unset, .unset, .unset, .unset, .unset, .unset, .unset, .unset, .unset, .unset] [(.long (1000000 : Int64)), (.int (6 : Int32)), (.ref b63), (.ref b63)])) _
  refine st70 _ ?_
  refine XS.dup X70.here hx rfl (hb hby at_45) rfl rfl ?_
  refine XS.bipush X70.here hx rfl (hb hby at_46) ?_
  refine X70.ldc2Long hx hown (mvT hZ (hw _ (List.mem_of_getElem? (i := 7) rfl))) (g := (mkF m 48 #[.val (.long cc), .second, .val (.int rate), .val (.int days), .val (.int y), .val (.int pp), .val (.int ss), .unset, .unset, .unset, .unset, .unset, .unset, .unset, .unset, .unset, .unset, .unset, .unset, .unset, .unset, .unset, .unset, .unset, .unset, .unset, .unset, .unset, .unset, .unset, .unset, .unset] [(.int (7 : Int32)), (.ref b63), (.ref b63)])) rfl (hb hby at_48) _ ?_
  show Steps p.tables e below (T70.setTop (mkF m 51 #[.val (.long cc), .second, .val (.int rate), .val (.int days), .val (.int y), .val (.int pp), .val (.int ss), .unset, .unset, .unset, .unset, .unset, .unset, .unset, .unset, .unset, .unset, .unset, .unset, .unset, .unset, .unset, .unset, .unset, .unset, .unset, .unset, .unset, .unset, .unset, .unset, .unset] [(.long (10000000 : Int64)), (.int (7 : Int32)), (.ref b63), (.ref b63)])) _
  refine st71 _ ?_
  refine XS.dup X71.here hx rfl (hb hby at_52) rfl rfl ?_
  refine XS.bipush X71.here hx rfl (hb hby at_53) ?_
  refine X71.ldc2Long hx hown (mvT hZ (hw _ (List.mem_of_getElem? (i := 8) rfl))) (g := (mkF m 55 #[.val (.long cc), .second, .val (.int rate), .val (.int days), .val (.int y), .val (.int pp), .val (.int ss), .unset, .unset, .unset, .unset, .unset, .unset, .unset, .unset, .unset, .unset, .unset, .unset, .unset, .unset, .unset, .unset, .unset, .unset, .unset, .unset, .unset, .unset, .unset, .unset, .unset] [(.int (8 : Int32)), (.ref b63), (.ref b63)])) rfl (hb hby at_55) _ ?_
  show Steps p.tables e below (T71.setTop (mkF m 58 #[.val (.long cc), .second, .val (.int rate), .val (.int days), .val (.int y), .val (.int pp), .val (.int ss), .unset, .unset, .unset, .unset, .unset, .unset, .unset, .unset, .unset, .unset, .unset, .unset, .unset, .unset, .unset, .unset, .unset, .unset, .unset, .unset, .unset, .unset, .unset, .unset, .unset] [(.long (100000000 : Int64)), (.int (8 : Int32)), (.ref b63), (.ref b63)])) _
  refine st72 _ ?_
  refine XS.dup X72.here hx rfl (hb hby at_59) rfl rfl ?_
  refine XS.bipush X72.here hx rfl (hb hby at_60) ?_
  refine X72.ldc2Long hx hown (mvT hZ (hw _ (List.mem_of_getElem? (i := 9) rfl))) (g := (mkF m 62 #[.val (.long cc), .second, .val (.int rate), .val (.int days), .val (.int y), .val (.int pp), .val (.int ss), .unset, .unset, .unset, .unset, .unset, .unset, .unset, .unset, .unset, .unset, .unset, .unset, .unset, .unset, .unset, .unset, .unset, .unset, .unset, .unset, .unset, .unset, .unset, .unset, .unset] [(.int (9 : Int32)), (.ref b63), (.ref b63)])) rfl (hb hby at_62) _ ?_
  show Steps p.tables e below (T72.setTop (mkF m 65 #[.val (.long cc), .second, .val (.int rate), .val (.int days), .val (.int y), .val (.int pp), .val (.int ss), .unset, .unset, .unset, .unset, .unset, .unset, .unset, .unset, .unset, .unset, .unset, .unset, .unset, .unset, .unset, .unset, .unset, .unset, .unset, .unset, .unset, .unset, .unset, .unset, .unset] [(.long (1000000000 : Int64)), (.int (9 : Int32)), (.ref b63), (.ref b63)])) _
  refine st73 _ ?_
  refine XS.dup X73.here hx rfl (hb hby at_66) rfl rfl ?_
  refine XS.bipush X73.here hx rfl (hb hby at_67) ?_
  refine X73.ldc2Long hx hown (mvT hZ (hw _ (List.mem_of_getElem? (i := 10) rfl))) (g := (mkF m 69 #[.val (.long cc), .second, .val (.int rate), .val (.int days), .val (.int y), .val (.int pp), .val (.int ss), .unset, .unset, .unset, .unset, .unset, .unset, .unset, .unset, .unset, .unset, .unset, .unset, .unset, .unset, .unset, .unset, .unset, .unset, .unset, .unset, .unset, .unset, .unset, .unset, .unset] [(.int (10 : Int32)), (.ref b63), (.ref b63)])) rfl (hb hby at_69) _ ?_
  show Steps p.tables e below (T73.setTop (mkF m 72 #[.val (.long cc), .second, .val (.int rate), .val (.int days), .val (.int y), .val (.int pp), .val (.int ss), .unset, .unset, .unset, .unset, .unset, .unset, .unset, .unset, .unset, .unset, .unset, .unset, .unset, .unset, .unset, .unset, .unset, .unset, .unset, .unset, .unset, .unset, .unset, .unset, .unset] [(.long (10000000000 : Int64)), (.int (10 : Int32)), (.ref b63), (.ref b63)])) _
  refine st74 _ ?_
  refine XS.dup X74.here hx rfl (hb hby at_73) rfl rfl ?_
  refine XS.bipush X74.here hx rfl (hb hby at_74) ?_
  refine X74.ldc2Long hx hown (mvT hZ (hw _ (List.mem_of_getElem? (i := 11) rfl))) (g := (mkF m 76 #[.val (.long cc), .second, .val (.int rate), .val (.int days), .val (.int y), .val (.int pp), .val (.int ss), .unset, .unset, .unset, .unset, .unset, .unset, .unset, .unset, .unset, .unset, .unset, .unset, .unset, .unset, .unset, .unset, .unset, .unset, .unset, .unset, .unset, .unset, .unset, .unset, .unset] [(.int (11 : Int32)), (.ref b63), (.ref b63)])) rfl (hb hby at_76) _ ?_
  show Steps p.tables e below (T74.setTop (mkF m 79 #[.val (.long cc), .second, .val (.int rate), .val (.int days), .val (.int y), .val (.int pp), .val (.int ss), .unset, .unset, .unset, .unset, .unset, .unset, .unset, .unset, .unset, .unset, .unset, .unset, .unset, .unset, .unset, .unset, .unset, .unset, .unset, .unset, .unset, .unset, .unset, .unset, .unset] [(.long (100000000000 : Int64)), (.int (11 : Int32)), (.ref b63), (.ref b63)])) _
  refine st75 _ ?_
  refine XS.dup X75.here hx rfl (hb hby at_80) rfl rfl ?_
  refine XS.bipush X75.here hx rfl (hb hby at_81) ?_
  refine X75.ldc2Long hx hown (mvT hZ (hw _ (List.mem_of_getElem? (i := 12) rfl))) (g := (mkF m 83 #[.val (.long cc), .second, .val (.int rate), .val (.int days), .val (.int y), .val (.int pp), .val (.int ss), .unset, .unset, .unset, .unset, .unset, .unset, .unset, .unset, .unset, .unset, .unset, .unset, .unset, .unset, .unset, .unset, .unset, .unset, .unset, .unset, .unset, .unset, .unset, .unset, .unset] [(.int (12 : Int32)), (.ref b63), (.ref b63)])) rfl (hb hby at_83) _ ?_
  show Steps p.tables e below (T75.setTop (mkF m 86 #[.val (.long cc), .second, .val (.int rate), .val (.int days), .val (.int y), .val (.int pp), .val (.int ss), .unset, .unset, .unset, .unset, .unset, .unset, .unset, .unset, .unset, .unset, .unset, .unset, .unset, .unset, .unset, .unset, .unset, .unset, .unset, .unset, .unset, .unset, .unset, .unset, .unset] [(.long (1000000000000 : Int64)), (.int (12 : Int32)), (.ref b63), (.ref b63)])) _
  refine st76 _ ?_
  refine XS.dup X76.here hx rfl (hb hby at_87) rfl rfl ?_
  refine XS.bipush X76.here hx rfl (hb hby at_88) ?_
  refine X76.ldc2Long hx hown (mvT hZ (hw _ (List.mem_of_getElem? (i := 13) rfl))) (g := (mkF m 90 #[.val (.long cc), .second, .val (.int rate), .val (.int days), .val (.int y), .val (.int pp), .val (.int ss), .unset, .unset, .unset, .unset, .unset, .unset, .unset, .unset, .unset, .unset, .unset, .unset, .unset, .unset, .unset, .unset, .unset, .unset, .unset, .unset, .unset, .unset, .unset, .unset, .unset] [(.int (13 : Int32)), (.ref b63), (.ref b63)])) rfl (hb hby at_90) _ ?_
  show Steps p.tables e below (T76.setTop (mkF m 93 #[.val (.long cc), .second, .val (.int rate), .val (.int days), .val (.int y), .val (.int pp), .val (.int ss), .unset, .unset, .unset, .unset, .unset, .unset, .unset, .unset, .unset, .unset, .unset, .unset, .unset, .unset, .unset, .unset, .unset, .unset, .unset, .unset, .unset, .unset, .unset, .unset, .unset] [(.long (10000000000000 : Int64)), (.int (13 : Int32)), (.ref b63), (.ref b63)])) _
  refine st77 _ ?_
  refine XS.dup X77.here hx rfl (hb hby at_94) rfl rfl ?_
  refine XS.bipush X77.here hx rfl (hb hby at_95) ?_
  refine X77.ldc2Long hx hown (mvT hZ (hw _ (List.mem_of_getElem? (i := 14) rfl))) (g := (mkF m 97 #[.val (.long cc), .second, .val (.int rate), .val (.int days), .val (.int y), .val (.int pp), .val (.int ss), .unset, .unset, .unset, .unset, .unset, .unset, .unset, .unset, .unset, .unset, .unset, .unset, .unset, .unset, .unset, .unset, .unset, .unset, .unset, .unset, .unset, .unset, .unset, .unset, .unset] [(.int (14 : Int32)), (.ref b63), (.ref b63)])) rfl (hb hby at_97) _ ?_
  show Steps p.tables e below (T77.setTop (mkF m 100 #[.val (.long cc), .second, .val (.int rate), .val (.int days), .val (.int y), .val (.int pp), .val (.int ss), .unset, .unset, .unset, .unset, .unset, .unset, .unset, .unset, .unset, .unset, .unset, .unset, .unset, .unset, .unset, .unset, .unset, .unset, .unset, .unset, .unset, .unset, .unset, .unset, .unset] [(.long (100000000000000 : Int64)), (.int (14 : Int32)), (.ref b63), (.ref b63)])) _
  refine st78 _ ?_
  refine XS.dup X78.here hx rfl (hb hby at_101) rfl rfl ?_
  refine XS.bipush X78.here hx rfl (hb hby at_102) ?_
  refine X78.ldc2Long hx hown (mvT hZ (hw _ (List.mem_of_getElem? (i := 15) rfl))) (g := (mkF m 104 #[.val (.long cc), .second, .val (.int rate), .val (.int days), .val (.int y), .val (.int pp), .val (.int ss), .unset, .unset, .unset, .unset, .unset, .unset, .unset, .unset, .unset, .unset, .unset, .unset, .unset, .unset, .unset, .unset, .unset, .unset, .unset, .unset, .unset, .unset, .unset, .unset, .unset] [(.int (15 : Int32)), (.ref b63), (.ref b63)])) rfl (hb hby at_104) _ ?_
  show Steps p.tables e below (T78.setTop (mkF m 107 #[.val (.long cc), .second, .val (.int rate), .val (.int days), .val (.int y), .val (.int pp), .val (.int ss), .unset, .unset, .unset, .unset, .unset, .unset, .unset, .unset, .unset, .unset, .unset, .unset, .unset, .unset, .unset, .unset, .unset, .unset, .unset, .unset, .unset, .unset, .unset, .unset, .unset] [(.long (1000000000000000 : Int64)), (.int (15 : Int32)), (.ref b63), (.ref b63)])) _
  refine st79 _ ?_
  refine XS.dup X79.here hx rfl (hb hby at_108) rfl rfl ?_
  refine XS.bipush X79.here hx rfl (hb hby at_109) ?_
  refine X79.ldc2Long hx hown (mvT hZ (hw _ (List.mem_of_getElem? (i := 16) rfl))) (g := (mkF m 111 #[.val (.long cc), .second, .val (.int rate), .val (.int days), .val (.int y), .val (.int pp), .val (.int ss), .unset, .unset, .unset, .unset, .unset, .unset, .unset, .unset, .unset, .unset, .unset, .unset, .unset, .unset, .unset, .unset, .unset, .unset, .unset, .unset, .unset, .unset, .unset, .unset, .unset] [(.int (16 : Int32)), (.ref b63), (.ref b63)])) rfl (hb hby at_111) _ ?_
  show Steps p.tables e below (T79.setTop (mkF m 114 #[.val (.long cc), .second, .val (.int rate), .val (.int days), .val (.int y), .val (.int pp), .val (.int ss), .unset, .unset, .unset, .unset, .unset, .unset, .unset, .unset, .unset, .unset, .unset, .unset, .unset, .unset, .unset, .unset, .unset, .unset, .unset, .unset, .unset, .unset, .unset, .unset, .unset] [(.long (10000000000000000 : Int64)), (.int (16 : Int32)), (.ref b63), (.ref b63)])) _
  refine st80 _ ?_
  refine XS.dup X80.here hx rfl (hb hby at_115) rfl rfl ?_
  refine XS.bipush X80.here hx rfl (hb hby at_116) ?_
  refine X80.ldc2Long hx hown (mvT hZ (hw _ (List.mem_of_getElem? (i := 17) rfl))) (g := (mkF m 118 #[.val (.long cc), .second, .val (.int rate), .val (.int days), .val (.int y), .val (.int pp), .val (.int ss), .unset, .unset, .unset, .unset, .unset, .unset, .unset, .unset, .unset, .unset, .unset, .unset, .unset, .unset, .unset, .unset, .unset, .unset, .unset, .unset, .unset, .unset, .unset, .unset, .unset] [(.int (17 : Int32)), (.ref b63), (.ref b63)])) rfl (hb hby at_118) _ ?_
  show Steps p.tables e below (T80.setTop (mkF m 121 #[.val (.long cc), .second, .val (.int rate), .val (.int days), .val (.int y), .val (.int pp), .val (.int ss), .unset, .unset, .unset, .unset, .unset, .unset, .unset, .unset, .unset, .unset, .unset, .unset, .unset, .unset, .unset, .unset, .unset, .unset, .unset, .unset, .unset, .unset, .unset, .unset, .unset] [(.long (100000000000000000 : Int64)), (.int (17 : Int32)), (.ref b63), (.ref b63)])) _
  refine st81 _ ?_
  refine XS.dup X81.here hx rfl (hb hby at_122) rfl rfl ?_
  refine XS.bipush X81.here hx rfl (hb hby at_123) ?_
  refine X81.ldc2Long hx hown (mvT hZ (hw _ (List.mem_of_getElem? (i := 18) rfl))) (g := (mkF m 125 #[.val (.long cc), .second, .val (.int rate), .val (.int days), .val (.int y), .val (.int pp), .val (.int ss), .unset, .unset, .unset, .unset, .unset, .unset, .unset, .unset, .unset, .unset, .unset, .unset, .unset, .unset, .unset, .unset, .unset, .unset, .unset, .unset, .unset, .unset, .unset, .unset, .unset] [(.int (18 : Int32)), (.ref b63), (.ref b63)])) rfl (hb hby at_125) _ ?_
  show Steps p.tables e below (T81.setTop (mkF m 128 #[.val (.long cc), .second, .val (.int rate), .val (.int days), .val (.int y), .val (.int pp), .val (.int ss), .unset, .unset, .unset, .unset, .unset, .unset, .unset, .unset, .unset, .unset, .unset, .unset, .unset, .unset, .unset, .unset, .unset, .unset, .unset, .unset, .unset, .unset, .unset, .unset, .unset] [(.long (1000000000000000000 : Int64)), (.int (18 : Int32)), (.ref b63), (.ref b63)])) _
  refine st82 _ ?_
  refine XS.astore X82.here hx rfl (hb hby at_129) rfl rfl (l' := #[.val (.long cc), .second, .val (.int rate), .val (.int days), .val (.int y), .val (.int pp), .val (.int ss), .val (.ref b63), .unset, .unset, .unset, .unset, .unset, .unset, .unset, .unset, .unset, .unset, .unset, .unset, .unset, .unset, .unset, .unset, .unset, .unset, .unset, .unset, .unset, .unset, .unset, .unset]) rfl ?_
  exact kt
def ydF (y : Int32) : Int32 := maxF 1 (y &&& 2147483647)
def tL (pp ss : Int32) : Int32 := ((pp % (24 : Int32)) - (4 : Int32)) - (ss % (24 : Int32))
def rdF (rate days : Int32) : Int64 := rate.toInt64 * days.toInt64
def centF (c per : Int64) : Int64 := c % ((9223372036854775807 : Int64) / absL per)
def Q0 (h0 : Heap) (n0 : Nat) (v : Option Value) (h : Heap) (L : List Loc) : Prop := v = some (.int 1) ∧ Fr n0 L
theorem ofNat_clamp {n : Nat} (h : n < 2147483648) : (Int32.ofNat n).toNatClampNeg = n := by
  show (Int32.ofNat n).toInt.toNat = n
  rw [Int32.toInt_ofNat_small h]; rfl
theorem ofNat_nn {n : Nat} (h : n < 2147483648) : ¬ Int32.ofNat n < 0 := by
  rw [Int32.lt_iff_toInt_lt, Int32.toInt_ofNat_small h, Int32.toInt_zero]; omega
set_option maxRecDepth 65536 in
set_option maxHeartbeats 40000000 in
theorem rm0_A1 (l : Launch) (Z : State) (a0 : Array Value) (hw : ∀ d ∈ tables_1, d.before a0 Z = true) (ws : List Jvm.Cond) (cc : Int64) (rate : Int32) (days : Int32) (y : Int32) (pp : Int32) (ss : Int32)  (h0 : Heap) (n0 : Nat) (Z0 : n0 ≤ h0.size)  (hc174 : (18 : Int32) < (tL pp ss)) (fhc18 : (18 : Int32) < (absI (tA (pp % (24 : Int32)) (ss % (24 : Int32))))) (hc202 : (lcmpW (-9223372036854775808 : Int64) (-9223372036854775808 : Int64)) = (0 : Int32)) :
    MetFree l x (head1 (Jvm.Cond.code x code maxLocals ret :: ws) room_1) (fun aa U => aa = #[(.long cc), (.int rate), (.int days), (.int y), (.int pp), (.int ss)] ∧ Z.Warmed39 U.vm ∧ U.heap = h0) (fun _ _ _ _ _ => True) (fun _ U o U' => ∃ v L, o = .returned v ∧ Q0  h0 n0 v U'.heap L ∧ FrameEnd U o U' L room_1.cells room_1.slots) := by
  refine MetFree.of_bodySF (plainFor_of_name pn_0) hisR ?_
  intro p e s m args below meth c s₁ Bd hml0 hP hK
  obtain ⟨rfl, hZ, hh⟩ := hP
  have hx := Bd.exec
  have hby := Bd.bytes
  have hml : c.maxLocals = 32 := hml0
  have hown : s.vm.findClass "com/example/syndicata/syndicata/AccrualAccruedUnitsPinLaw" = some m.cls := findClass_of_methodNamed Bd.named
  have hnm := (name_of_methodNamed Bd.named Bd.method).1
  have X0 : Stand p l e room_1 s m #[(.long cc), (.int rate), (.int days), (.int y), (.int pp), (.int ss)] below meth c s₁ [] 0 0 := Stand.of_body Bd
  have e0 : s₁.heap = h0 := by rw [← hh, Bd.state]; rfl
  have N0 := Fr.nil n0
  have pre0 : ∀ zz, Steps p.tables e below (s₁.setTop (mkF m 0 #[.val (.long cc), .second, .val (.int rate), .val (.int days), .val (.int y), .val (.int pp), .val (.int ss), .unset, .unset, .unset, .unset, .unset, .unset, .unset, .unset, .unset, .unset, .unset, .unset, .unset, .unset, .unset, .unset, .unset, .unset, .unset, .unset, .unset, .unset, .unset, .unset, .unset] [])) zz → Steps p.tables e below (s₁.setTop (entryFrame m #[(.long cc), (.int rate), (.int days), (.int y), (.int pp), (.int ss)] maxLocals)) zz := fun zz k => castTop (ef_0 m cc rate days y pp ss) k
  obtain ⟨Tf, hf1, b, kk, locs1, Xf, ef, Zf, Vf, Nf, stf⟩ := fill0 (n0 := n0) cc rate days y pp ss X0 hx hZ hw hby hown e0 Z0
  obtain ⟨_, _, ⟨T83, L83, k83, n83⟩, -, X83, ⟨Lc83, hQ83, l83, y83, z83⟩, st83⟩ := Jvm.LawKit.callS Xf hx (y := (⟨"java/lang/Math", "max", "(II)I"⟩ : MethodName)) hown (mvT hZ (hw _ (List.mem_of_getElem? (i := 21) rfl))) (mvT hZ (hw _ (List.mem_of_getElem? (i := 22) rfl))) (mvT hZ (hw _ (List.mem_of_getElem? (i := 23) rfl))) (mvT hZ (hw _ (List.mem_of_getElem? (i := 24) rfl))) (by decide) (backOf (W := 0) (rm1 l Z a0 hw [] (1 : Int32) (y &&& (2147483647 : Int32)) hf1 n0 Zf) hZ (hw _ (List.mem_of_getElem? (i := 24) rfl)) (hw _ (List.mem_of_getElem? (i := 23) rfl)) (by decide) (by decide)) (g := (mkF m 142 #[.val (.long cc), .second, .val (.int rate), .val (.int days), .val (.int y), .val (.int pp), .val (.int ss), .val (.ref b), .val (.long (9223372036854775807 : Int64)), .second, .unset, .unset, .unset, .unset, .unset, .unset, .unset, .unset, .unset, .unset, .unset, .unset, .unset, .unset, .unset, .unset, .unset, .unset, .unset, .unset, .unset, .unset] [(.int (y &&& (2147483647 : Int32))), (.int (1 : Int32))])) rfl (by rw [hml]; rfl) (argsL := [(.int (1 : Int32)), (.int (y &&& (2147483647 : Int32)))]) (rest := []) (lenOf pd_0 rfl) rfl (by show 2 * 0 + _ ≤ _; exact Nat.le_of_eq rfl) (hb hby at_142) (fun _ _ => ⟨rfl, ef, (by decide : 1 + 0 ≤ _), (by decide : 19 + 0 ≤ _)⟩)
  dsimp only [Pt.U, Pt.locs, Pt.cells, Pt.slots] at X83 l83 y83 z83 st83 hQ83
  subst l83 y83 z83
  obtain ⟨rfl, N83q, e83⟩ := hQ83
  have N83 := Fr.app Nf N83q
  obtain ⟨_, _, ⟨T84, L84, k84, n84⟩, -, X84, ⟨Lc84, hQ84, l84, y84, z84⟩, st84⟩ := Jvm.LawKit.callS X83 hx (y := (⟨"com/example/syndicata/syndicata/Accrual", "accruedUnits", "(JJIJII)J"⟩ : MethodName)) hown (mvT hZ (hw _ (List.mem_of_getElem? (i := 28) rfl))) (mvT hZ (hw _ (List.mem_of_getElem? (i := 29) rfl))) (mvT hZ (hw _ (List.mem_of_getElem? (i := 30) rfl))) (mvT hZ (hw _ (List.mem_of_getElem? (i := 31) rfl))) (by decide) (backOf (W := 0) (rm3_A l Z a0 hw [] cc (rate.toInt64) (ss % (24 : Int32)) (days.toInt64) (ydF y) (pp % (24 : Int32)) hf1 n0 Zf fhc18) hZ (hw _ (List.mem_of_getElem? (i := 31) rfl)) (hw _ (List.mem_of_getElem? (i := 30) rfl)) (by decide) (by decide)) (g := (mkF m 195 #[.val (.long cc), .second, .val (.int rate), .val (.int days), .val (.int y), .val (.int pp), .val (.int ss), .val (.ref b), .val (.long (9223372036854775807 : Int64)), .second, .val (.int (ydF y)), .val (.int (pp % (24 : Int32))), .val (.int (ss % (24 : Int32))), .val (.int (tL pp ss)), .unset, .unset, .unset, .unset, .unset, .unset, .unset, .unset, .unset, .unset, .unset, .unset, .unset, .unset, .unset, .unset, .unset, .unset] [(.int (pp % (24 : Int32))), (.int (ydF y)), (.long (days.toInt64)), (.int (ss % (24 : Int32))), (.long (rate.toInt64)), (.long cc)])) rfl (by rw [hml]; rfl) (argsL := [(.long cc), (.long (rate.toInt64)), (.int (ss % (24 : Int32))), (.long (days.toInt64)), (.int (ydF y)), (.int (pp % (24 : Int32)))]) (rest := []) (lenOf pd_2 rfl) rfl (by show 2 * 0 + _ ≤ _; exact Nat.le_of_eq rfl) (hb hby at_195) (fun _ _ => ⟨rfl, e83, (by decide : 1 + 0 ≤ _), (by decide : 19 + 0 ≤ _)⟩)
  dsimp only [Pt.U, Pt.locs, Pt.cells, Pt.slots] at X84 l84 y84 z84 st84 hQ84
  subst l84 y84 z84
  obtain ⟨rfl, N84q, e84⟩ := hQ84
  have N84 := Fr.app N83 N84q
  obtain ⟨fs, hr, hrun, hended, hW, hsame⟩ := X84.leave (v := some (.int (1 : Int32))) (fun h => by rw [Bd.returns] at h; cases h)
  refine ⟨_, _, pre0 _ ?_, hrun, hended, _, _, rfl, ?_, ⟨_, rfl⟩, hW, hsame.mono (by decide) (by decide)⟩
  · show Steps p.tables e below (s₁.setTop (mkF m 0 #[.val (.long cc), .second, .val (.int rate), .val (.int days), .val (.int y), .val (.int pp), .val (.int ss), .unset, .unset, .unset, .unset, .unset, .unset, .unset, .unset, .unset, .unset, .unset, .unset, .unset, .unset, .unset, .unset, .unset, .unset, .unset, .unset, .unset, .unset, .unset, .unset, .unset] [])) _
    refine stf _ ?_
    show Steps p.tables e below (Tf.setTop (mkF m 131 #[.val (.long cc), .second, .val (.int rate), .val (.int days), .val (.int y), .val (.int pp), .val (.int ss), .val (.ref b), .unset, .unset, .unset, .unset, .unset, .unset, .unset, .unset, .unset, .unset, .unset, .unset, .unset, .unset, .unset, .unset, .unset, .unset, .unset, .unset, .unset, .unset, .unset, .unset] [])) _
    refine Xf.ldc2Long hx hown (mvT hZ (hw _ (List.mem_of_getElem? (i := 19) rfl))) (g := (mkF m 131 #[.val (.long cc), .second, .val (.int rate), .val (.int days), .val (.int y), .val (.int pp), .val (.int ss), .val (.ref b), .unset, .unset, .unset, .unset, .unset, .unset, .unset, .unset, .unset, .unset, .unset, .unset, .unset, .unset, .unset, .unset, .unset, .unset, .unset, .unset, .unset, .unset, .unset, .unset] [])) rfl (hb hby at_131) _ ?_
    refine XS.lstore Xf.here hx rfl (hb hby at_134) rfl (l' := #[.val (.long cc), .second, .val (.int rate), .val (.int days), .val (.int y), .val (.int pp), .val (.int ss), .val (.ref b), .val (.long (9223372036854775807 : Int64)), .second, .unset, .unset, .unset, .unset, .unset, .unset, .unset, .unset, .unset, .unset, .unset, .unset, .unset, .unset, .unset, .unset, .unset, .unset, .unset, .unset, .unset, .unset]) rfl ?_
    refine XS.iconst Xf.here hx rfl (hb hby at_136) ?_
    refine XS.iload Xf.here hx rfl (hb hby at_137) rfl ?_
    refine Xf.ldcInt hx hown (mvT hZ (hw _ (List.mem_of_getElem? (i := 20) rfl))) (g := (mkF m 139 #[.val (.long cc), .second, .val (.int rate), .val (.int days), .val (.int y), .val (.int pp), .val (.int ss), .val (.ref b), .val (.long (9223372036854775807 : Int64)), .second, .unset, .unset, .unset, .unset, .unset, .unset, .unset, .unset, .unset, .unset, .unset, .unset, .unset, .unset, .unset, .unset, .unset, .unset, .unset, .unset, .unset, .unset] [(.int y), (.int (1 : Int32))])) rfl (hb hby at_139) _ ?_
    refine XS.iand Xf.here hx rfl (hb hby at_141) rfl ?_
    show Steps p.tables e below (Tf.setTop (mkF m 142 #[.val (.long cc), .second, .val (.int rate), .val (.int days), .val (.int y), .val (.int pp), .val (.int ss), .val (.ref b), .val (.long (9223372036854775807 : Int64)), .second, .unset, .unset, .unset, .unset, .unset, .unset, .unset, .unset, .unset, .unset, .unset, .unset, .unset, .unset, .unset, .unset, .unset, .unset, .unset, .unset, .unset, .unset] [(.int (y &&& (2147483647 : Int32))), (.int (1 : Int32))])) _
    refine st83 _ ?_
    show Steps p.tables e below (T83.setTop (mkF m 145 #[.val (.long cc), .second, .val (.int rate), .val (.int days), .val (.int y), .val (.int pp), .val (.int ss), .val (.ref b), .val (.long (9223372036854775807 : Int64)), .second, .unset, .unset, .unset, .unset, .unset, .unset, .unset, .unset, .unset, .unset, .unset, .unset, .unset, .unset, .unset, .unset, .unset, .unset, .unset, .unset, .unset, .unset] [(.int (ydF y))])) _
    refine XS.istore X83.here hx rfl (hb hby at_145) rfl (l' := #[.val (.long cc), .second, .val (.int rate), .val (.int days), .val (.int y), .val (.int pp), .val (.int ss), .val (.ref b), .val (.long (9223372036854775807 : Int64)), .second, .val (.int (ydF y)), .unset, .unset, .unset, .unset, .unset, .unset, .unset, .unset, .unset, .unset, .unset, .unset, .unset, .unset, .unset, .unset, .unset, .unset, .unset, .unset, .unset]) rfl ?_
    refine XS.iload X83.here hx rfl (hb hby at_147) rfl ?_
    refine XS.bipush X83.here hx rfl (hb hby at_149) ?_
    refine gwIrem X83.here hx rfl (hb hby at_151) rfl (by decide : ¬ ((24 : Int32) = (0 : Int32))) ?_
    refine XS.istore X83.here hx rfl (hb hby at_152) rfl (l' := #[.val (.long cc), .second, .val (.int rate), .val (.int days), .val (.int y), .val (.int pp), .val (.int ss), .val (.ref b), .val (.long (9223372036854775807 : Int64)), .second, .val (.int (ydF y)), .val (.int (pp % (24 : Int32))), .unset, .unset, .unset, .unset, .unset, .unset, .unset, .unset, .unset, .unset, .unset, .unset, .unset, .unset, .unset, .unset, .unset, .unset, .unset, .unset]) rfl ?_
    refine XS.iload X83.here hx rfl (hb hby at_154) rfl ?_
    refine XS.bipush X83.here hx rfl (hb hby at_156) ?_
    refine gwIrem X83.here hx rfl (hb hby at_158) rfl (by decide : ¬ ((24 : Int32) = (0 : Int32))) ?_
    show Steps p.tables e below (T83.setTop (mkF m 159 #[.val (.long cc), .second, .val (.int rate), .val (.int days), .val (.int y), .val (.int pp), .val (.int ss), .val (.ref b), .val (.long (9223372036854775807 : Int64)), .second, .val (.int (ydF y)), .val (.int (pp % (24 : Int32))), .unset, .unset, .unset, .unset, .unset, .unset, .unset, .unset, .unset, .unset, .unset, .unset, .unset, .unset, .unset, .unset, .unset, .unset, .unset, .unset] [(.int (ss % (24 : Int32)))])) _
    refine XS.istore X83.here hx rfl (hb hby at_159) rfl (l' := #[.val (.long cc), .second, .val (.int rate), .val (.int days), .val (.int y), .val (.int pp), .val (.int ss), .val (.ref b), .val (.long (9223372036854775807 : Int64)), .second, .val (.int (ydF y)), .val (.int (pp % (24 : Int32))), .val (.int (ss % (24 : Int32))), .unset, .unset, .unset, .unset, .unset, .unset, .unset, .unset, .unset, .unset, .unset, .unset, .unset, .unset, .unset, .unset, .unset, .unset, .unset]) rfl ?_
    refine XS.iload X83.here hx rfl (hb hby at_161) rfl ?_
    refine XS.iconst X83.here hx rfl (hb hby at_163) ?_
    refine XS.isub X83.here hx rfl (hb hby at_164) rfl ?_
    refine XS.iload X83.here hx rfl (hb hby at_165) rfl ?_
    refine XS.isub X83.here hx rfl (hb hby at_167) rfl ?_
    show Steps p.tables e below (T83.setTop (mkF m 168 #[.val (.long cc), .second, .val (.int rate), .val (.int days), .val (.int y), .val (.int pp), .val (.int ss), .val (.ref b), .val (.long (9223372036854775807 : Int64)), .second, .val (.int (ydF y)), .val (.int (pp % (24 : Int32))), .val (.int (ss % (24 : Int32))), .unset, .unset, .unset, .unset, .unset, .unset, .unset, .unset, .unset, .unset, .unset, .unset, .unset, .unset, .unset, .unset, .unset, .unset, .unset] [(.int (tL pp ss))])) _
    refine XS.istore X83.here hx rfl (hb hby at_168) rfl (l' := #[.val (.long cc), .second, .val (.int rate), .val (.int days), .val (.int y), .val (.int pp), .val (.int ss), .val (.ref b), .val (.long (9223372036854775807 : Int64)), .second, .val (.int (ydF y)), .val (.int (pp % (24 : Int32))), .val (.int (ss % (24 : Int32))), .val (.int (tL pp ss)), .unset, .unset, .unset, .unset, .unset, .unset, .unset, .unset, .unset, .unset, .unset, .unset, .unset, .unset, .unset, .unset, .unset, .unset]) rfl ?_
    refine XS.iload X83.here hx rfl (hb hby at_170) rfl ?_
    refine XS.bipush X83.here hx rfl (hb hby at_172) ?_
    refine XS.icmpYes X83.here hx rfl (pc0 := 174) (pc' := 184) rfl (hb hby at_174) rfl (tlt hc174).2.2.1 (by decide) (by decide) ?_
    refine XS.lloadN X83.here hx rfl (hb hby at_184) rfl ?_
    refine XS.iloadN X83.here hx rfl (hb hby at_185) rfl ?_
    refine XS.i2l X83.here hx rfl (hb hby at_186) rfl ?_
    refine XS.iload X83.here hx rfl (hb hby at_187) rfl ?_
    show Steps p.tables e below (T83.setTop (mkF m 189 #[.val (.long cc), .second, .val (.int rate), .val (.int days), .val (.int y), .val (.int pp), .val (.int ss), .val (.ref b), .val (.long (9223372036854775807 : Int64)), .second, .val (.int (ydF y)), .val (.int (pp % (24 : Int32))), .val (.int (ss % (24 : Int32))), .val (.int (tL pp ss)), .unset, .unset, .unset, .unset, .unset, .unset, .unset, .unset, .unset, .unset, .unset, .unset, .unset, .unset, .unset, .unset, .unset, .unset] [(.int (ss % (24 : Int32))), (.long (rate.toInt64)), (.long cc)])) _
    refine XS.iloadN X83.here hx rfl (hb hby at_189) rfl ?_
    refine XS.i2l X83.here hx rfl (hb hby at_190) rfl ?_
    refine XS.iload X83.here hx rfl (hb hby at_191) rfl ?_
    refine XS.iload X83.here hx rfl (hb hby at_193) rfl ?_
    show Steps p.tables e below (T83.setTop (mkF m 195 #[.val (.long cc), .second, .val (.int rate), .val (.int days), .val (.int y), .val (.int pp), .val (.int ss), .val (.ref b), .val (.long (9223372036854775807 : Int64)), .second, .val (.int (ydF y)), .val (.int (pp % (24 : Int32))), .val (.int (ss % (24 : Int32))), .val (.int (tL pp ss)), .unset, .unset, .unset, .unset, .unset, .unset, .unset, .unset, .unset, .unset, .unset, .unset, .unset, .unset, .unset, .unset, .unset, .unset] [(.int (pp % (24 : Int32))), (.int (ydF y)), (.long (days.toInt64)), (.int (ss % (24 : Int32))), (.long (rate.toInt64)), (.long cc)])) _
    refine st84 _ ?_
    refine X84.ldc2Long hx hown (mvT hZ (hw _ (List.mem_of_getElem? (i := 56) rfl))) (g := (mkF m 198 #[.val (.long cc), .second, .val (.int rate), .val (.int days), .val (.int y), .val (.int pp), .val (.int ss), .val (.ref b), .val (.long (9223372036854775807 : Int64)), .second, .val (.int (ydF y)), .val (.int (pp % (24 : Int32))), .val (.int (ss % (24 : Int32))), .val (.int (tL pp ss)), .unset, .unset, .unset, .unset, .unset, .unset, .unset, .unset, .unset, .unset, .unset, .unset, .unset, .unset, .unset, .unset, .unset, .unset] [(.long (-9223372036854775808 : Int64))])) rfl (hb hby at_198) _ ?_
    refine XS.lcmp X84.here hx rfl (hb hby at_201) rfl ?_
    refine XS.ifNo X84.here hx rfl (hb hby at_202) rfl ((if0 _ _).trans (teq hc202).2) ?_
    refine XS.iconst X84.here hx rfl (hb hby at_205) ?_
    refine XS.goto X84.here hx rfl (pc0 := 206) (pc' := 210) rfl (hb hby at_206) (by decide) (by decide) ?_
    show Steps p.tables e below (T84.setTop (mkF m 210 #[.val (.long cc), .second, .val (.int rate), .val (.int days), .val (.int y), .val (.int pp), .val (.int ss), .val (.ref b), .val (.long (9223372036854775807 : Int64)), .second, .val (.int (ydF y)), .val (.int (pp % (24 : Int32))), .val (.int (ss % (24 : Int32))), .val (.int (tL pp ss)), .unset, .unset, .unset, .unset, .unset, .unset, .unset, .unset, .unset, .unset, .unset, .unset, .unset, .unset, .unset, .unset, .unset, .unset] [(.int (1 : Int32))])) _
    exact retN X84 hx (t := .boolean) Bd.returns (by simp) (hb hby at_210) hr
  · show Q0  h0 n0 _ T84.heap _
    exact ⟨rfl, N84⟩
set_option maxRecDepth 65536 in
set_option maxHeartbeats 40000000 in
theorem rm0_A2 (l : Launch) (Z : State) (a0 : Array Value) (hw : ∀ d ∈ tables_1, d.before a0 Z = true) (ws : List Jvm.Cond) (cc : Int64) (rate : Int32) (days : Int32) (y : Int32) (pp : Int32) (ss : Int32)  (h0 : Heap) (n0 : Nat) (Z0 : n0 ≤ h0.size)  (hc174 : ¬ ((18 : Int32) < (tL pp ss))) (hc181 : (tL pp ss) < (-18 : Int32)) (fhc18 : (18 : Int32) < (absI (tA (pp % (24 : Int32)) (ss % (24 : Int32))))) (hc202 : (lcmpW (-9223372036854775808 : Int64) (-9223372036854775808 : Int64)) = (0 : Int32)) :
    MetFree l x (head1 (Jvm.Cond.code x code maxLocals ret :: ws) room_1) (fun aa U => aa = #[(.long cc), (.int rate), (.int days), (.int y), (.int pp), (.int ss)] ∧ Z.Warmed39 U.vm ∧ U.heap = h0) (fun _ _ _ _ _ => True) (fun _ U o U' => ∃ v L, o = .returned v ∧ Q0  h0 n0 v U'.heap L ∧ FrameEnd U o U' L room_1.cells room_1.slots) := by
  refine MetFree.of_bodySF (plainFor_of_name pn_0) hisR ?_
  intro p e s m args below meth c s₁ Bd hml0 hP hK
  obtain ⟨rfl, hZ, hh⟩ := hP
  have hx := Bd.exec
  have hby := Bd.bytes
  have hml : c.maxLocals = 32 := hml0
  have hown : s.vm.findClass "com/example/syndicata/syndicata/AccrualAccruedUnitsPinLaw" = some m.cls := findClass_of_methodNamed Bd.named
  have hnm := (name_of_methodNamed Bd.named Bd.method).1
  have X0 : Stand p l e room_1 s m #[(.long cc), (.int rate), (.int days), (.int y), (.int pp), (.int ss)] below meth c s₁ [] 0 0 := Stand.of_body Bd
  have e0 : s₁.heap = h0 := by rw [← hh, Bd.state]; rfl
  have N0 := Fr.nil n0
  have pre0 : ∀ zz, Steps p.tables e below (s₁.setTop (mkF m 0 #[.val (.long cc), .second, .val (.int rate), .val (.int days), .val (.int y), .val (.int pp), .val (.int ss), .unset, .unset, .unset, .unset, .unset, .unset, .unset, .unset, .unset, .unset, .unset, .unset, .unset, .unset, .unset, .unset, .unset, .unset, .unset, .unset, .unset, .unset, .unset, .unset, .unset] [])) zz → Steps p.tables e below (s₁.setTop (entryFrame m #[(.long cc), (.int rate), (.int days), (.int y), (.int pp), (.int ss)] maxLocals)) zz := fun zz k => castTop (ef_0 m cc rate days y pp ss) k
  obtain ⟨Tf, hf1, b, kk, locs1, Xf, ef, Zf, Vf, Nf, stf⟩ := fill0 (n0 := n0) cc rate days y pp ss X0 hx hZ hw hby hown e0 Z0
  obtain ⟨_, _, ⟨T85, L85, k85, n85⟩, -, X85, ⟨Lc85, hQ85, l85, y85, z85⟩, st85⟩ := Jvm.LawKit.callS Xf hx (y := (⟨"java/lang/Math", "max", "(II)I"⟩ : MethodName)) hown (mvT hZ (hw _ (List.mem_of_getElem? (i := 21) rfl))) (mvT hZ (hw _ (List.mem_of_getElem? (i := 22) rfl))) (mvT hZ (hw _ (List.mem_of_getElem? (i := 23) rfl))) (mvT hZ (hw _ (List.mem_of_getElem? (i := 24) rfl))) (by decide) (backOf (W := 0) (rm1 l Z a0 hw [] (1 : Int32) (y &&& (2147483647 : Int32)) hf1 n0 Zf) hZ (hw _ (List.mem_of_getElem? (i := 24) rfl)) (hw _ (List.mem_of_getElem? (i := 23) rfl)) (by decide) (by decide)) (g := (mkF m 142 #[.val (.long cc), .second, .val (.int rate), .val (.int days), .val (.int y), .val (.int pp), .val (.int ss), .val (.ref b), .val (.long (9223372036854775807 : Int64)), .second, .unset, .unset, .unset, .unset, .unset, .unset, .unset, .unset, .unset, .unset, .unset, .unset, .unset, .unset, .unset, .unset, .unset, .unset, .unset, .unset, .unset, .unset] [(.int (y &&& (2147483647 : Int32))), (.int (1 : Int32))])) rfl (by rw [hml]; rfl) (argsL := [(.int (1 : Int32)), (.int (y &&& (2147483647 : Int32)))]) (rest := []) (lenOf pd_0 rfl) rfl (by show 2 * 0 + _ ≤ _; exact Nat.le_of_eq rfl) (hb hby at_142) (fun _ _ => ⟨rfl, ef, (by decide : 1 + 0 ≤ _), (by decide : 19 + 0 ≤ _)⟩)
  dsimp only [Pt.U, Pt.locs, Pt.cells, Pt.slots] at X85 l85 y85 z85 st85 hQ85
  subst l85 y85 z85
  obtain ⟨rfl, N85q, e85⟩ := hQ85
  have N85 := Fr.app Nf N85q
  obtain ⟨_, _, ⟨T86, L86, k86, n86⟩, -, X86, ⟨Lc86, hQ86, l86, y86, z86⟩, st86⟩ := Jvm.LawKit.callS X85 hx (y := (⟨"com/example/syndicata/syndicata/Accrual", "accruedUnits", "(JJIJII)J"⟩ : MethodName)) hown (mvT hZ (hw _ (List.mem_of_getElem? (i := 28) rfl))) (mvT hZ (hw _ (List.mem_of_getElem? (i := 29) rfl))) (mvT hZ (hw _ (List.mem_of_getElem? (i := 30) rfl))) (mvT hZ (hw _ (List.mem_of_getElem? (i := 31) rfl))) (by decide) (backOf (W := 0) (rm3_A l Z a0 hw [] cc (rate.toInt64) (ss % (24 : Int32)) (days.toInt64) (ydF y) (pp % (24 : Int32)) hf1 n0 Zf fhc18) hZ (hw _ (List.mem_of_getElem? (i := 31) rfl)) (hw _ (List.mem_of_getElem? (i := 30) rfl)) (by decide) (by decide)) (g := (mkF m 195 #[.val (.long cc), .second, .val (.int rate), .val (.int days), .val (.int y), .val (.int pp), .val (.int ss), .val (.ref b), .val (.long (9223372036854775807 : Int64)), .second, .val (.int (ydF y)), .val (.int (pp % (24 : Int32))), .val (.int (ss % (24 : Int32))), .val (.int (tL pp ss)), .unset, .unset, .unset, .unset, .unset, .unset, .unset, .unset, .unset, .unset, .unset, .unset, .unset, .unset, .unset, .unset, .unset, .unset] [(.int (pp % (24 : Int32))), (.int (ydF y)), (.long (days.toInt64)), (.int (ss % (24 : Int32))), (.long (rate.toInt64)), (.long cc)])) rfl (by rw [hml]; rfl) (argsL := [(.long cc), (.long (rate.toInt64)), (.int (ss % (24 : Int32))), (.long (days.toInt64)), (.int (ydF y)), (.int (pp % (24 : Int32)))]) (rest := []) (lenOf pd_2 rfl) rfl (by show 2 * 0 + _ ≤ _; exact Nat.le_of_eq rfl) (hb hby at_195) (fun _ _ => ⟨rfl, e85, (by decide : 1 + 0 ≤ _), (by decide : 19 + 0 ≤ _)⟩)
  dsimp only [Pt.U, Pt.locs, Pt.cells, Pt.slots] at X86 l86 y86 z86 st86 hQ86
  subst l86 y86 z86
  obtain ⟨rfl, N86q, e86⟩ := hQ86
  have N86 := Fr.app N85 N86q
  obtain ⟨fs, hr, hrun, hended, hW, hsame⟩ := X86.leave (v := some (.int (1 : Int32))) (fun h => by rw [Bd.returns] at h; cases h)
  refine ⟨_, _, pre0 _ ?_, hrun, hended, _, _, rfl, ?_, ⟨_, rfl⟩, hW, hsame.mono (by decide) (by decide)⟩
  · show Steps p.tables e below (s₁.setTop (mkF m 0 #[.val (.long cc), .second, .val (.int rate), .val (.int days), .val (.int y), .val (.int pp), .val (.int ss), .unset, .unset, .unset, .unset, .unset, .unset, .unset, .unset, .unset, .unset, .unset, .unset, .unset, .unset, .unset, .unset, .unset, .unset, .unset, .unset, .unset, .unset, .unset, .unset, .unset] [])) _
    refine stf _ ?_
    show Steps p.tables e below (Tf.setTop (mkF m 131 #[.val (.long cc), .second, .val (.int rate), .val (.int days), .val (.int y), .val (.int pp), .val (.int ss), .val (.ref b), .unset, .unset, .unset, .unset, .unset, .unset, .unset, .unset, .unset, .unset, .unset, .unset, .unset, .unset, .unset, .unset, .unset, .unset, .unset, .unset, .unset, .unset, .unset, .unset] [])) _
    refine Xf.ldc2Long hx hown (mvT hZ (hw _ (List.mem_of_getElem? (i := 19) rfl))) (g := (mkF m 131 #[.val (.long cc), .second, .val (.int rate), .val (.int days), .val (.int y), .val (.int pp), .val (.int ss), .val (.ref b), .unset, .unset, .unset, .unset, .unset, .unset, .unset, .unset, .unset, .unset, .unset, .unset, .unset, .unset, .unset, .unset, .unset, .unset, .unset, .unset, .unset, .unset, .unset, .unset] [])) rfl (hb hby at_131) _ ?_
    refine XS.lstore Xf.here hx rfl (hb hby at_134) rfl (l' := #[.val (.long cc), .second, .val (.int rate), .val (.int days), .val (.int y), .val (.int pp), .val (.int ss), .val (.ref b), .val (.long (9223372036854775807 : Int64)), .second, .unset, .unset, .unset, .unset, .unset, .unset, .unset, .unset, .unset, .unset, .unset, .unset, .unset, .unset, .unset, .unset, .unset, .unset, .unset, .unset, .unset, .unset]) rfl ?_
    refine XS.iconst Xf.here hx rfl (hb hby at_136) ?_
    refine XS.iload Xf.here hx rfl (hb hby at_137) rfl ?_
    refine Xf.ldcInt hx hown (mvT hZ (hw _ (List.mem_of_getElem? (i := 20) rfl))) (g := (mkF m 139 #[.val (.long cc), .second, .val (.int rate), .val (.int days), .val (.int y), .val (.int pp), .val (.int ss), .val (.ref b), .val (.long (9223372036854775807 : Int64)), .second, .unset, .unset, .unset, .unset, .unset, .unset, .unset, .unset, .unset, .unset, .unset, .unset, .unset, .unset, .unset, .unset, .unset, .unset, .unset, .unset, .unset, .unset] [(.int y), (.int (1 : Int32))])) rfl (hb hby at_139) _ ?_
    refine XS.iand Xf.here hx rfl (hb hby at_141) rfl ?_
    show Steps p.tables e below (Tf.setTop (mkF m 142 #[.val (.long cc), .second, .val (.int rate), .val (.int days), .val (.int y), .val (.int pp), .val (.int ss), .val (.ref b), .val (.long (9223372036854775807 : Int64)), .second, .unset, .unset, .unset, .unset, .unset, .unset, .unset, .unset, .unset, .unset, .unset, .unset, .unset, .unset, .unset, .unset, .unset, .unset, .unset, .unset, .unset, .unset] [(.int (y &&& (2147483647 : Int32))), (.int (1 : Int32))])) _
    refine st85 _ ?_
    show Steps p.tables e below (T85.setTop (mkF m 145 #[.val (.long cc), .second, .val (.int rate), .val (.int days), .val (.int y), .val (.int pp), .val (.int ss), .val (.ref b), .val (.long (9223372036854775807 : Int64)), .second, .unset, .unset, .unset, .unset, .unset, .unset, .unset, .unset, .unset, .unset, .unset, .unset, .unset, .unset, .unset, .unset, .unset, .unset, .unset, .unset, .unset, .unset] [(.int (ydF y))])) _
    refine XS.istore X85.here hx rfl (hb hby at_145) rfl (l' := #[.val (.long cc), .second, .val (.int rate), .val (.int days), .val (.int y), .val (.int pp), .val (.int ss), .val (.ref b), .val (.long (9223372036854775807 : Int64)), .second, .val (.int (ydF y)), .unset, .unset, .unset, .unset, .unset, .unset, .unset, .unset, .unset, .unset, .unset, .unset, .unset, .unset, .unset, .unset, .unset, .unset, .unset, .unset, .unset]) rfl ?_
    refine XS.iload X85.here hx rfl (hb hby at_147) rfl ?_
    refine XS.bipush X85.here hx rfl (hb hby at_149) ?_
    refine gwIrem X85.here hx rfl (hb hby at_151) rfl (by decide : ¬ ((24 : Int32) = (0 : Int32))) ?_
    refine XS.istore X85.here hx rfl (hb hby at_152) rfl (l' := #[.val (.long cc), .second, .val (.int rate), .val (.int days), .val (.int y), .val (.int pp), .val (.int ss), .val (.ref b), .val (.long (9223372036854775807 : Int64)), .second, .val (.int (ydF y)), .val (.int (pp % (24 : Int32))), .unset, .unset, .unset, .unset, .unset, .unset, .unset, .unset, .unset, .unset, .unset, .unset, .unset, .unset, .unset, .unset, .unset, .unset, .unset, .unset]) rfl ?_
    refine XS.iload X85.here hx rfl (hb hby at_154) rfl ?_
    refine XS.bipush X85.here hx rfl (hb hby at_156) ?_
    refine gwIrem X85.here hx rfl (hb hby at_158) rfl (by decide : ¬ ((24 : Int32) = (0 : Int32))) ?_
    show Steps p.tables e below (T85.setTop (mkF m 159 #[.val (.long cc), .second, .val (.int rate), .val (.int days), .val (.int y), .val (.int pp), .val (.int ss), .val (.ref b), .val (.long (9223372036854775807 : Int64)), .second, .val (.int (ydF y)), .val (.int (pp % (24 : Int32))), .unset, .unset, .unset, .unset, .unset, .unset, .unset, .unset, .unset, .unset, .unset, .unset, .unset, .unset, .unset, .unset, .unset, .unset, .unset, .unset] [(.int (ss % (24 : Int32)))])) _
    refine XS.istore X85.here hx rfl (hb hby at_159) rfl (l' := #[.val (.long cc), .second, .val (.int rate), .val (.int days), .val (.int y), .val (.int pp), .val (.int ss), .val (.ref b), .val (.long (9223372036854775807 : Int64)), .second, .val (.int (ydF y)), .val (.int (pp % (24 : Int32))), .val (.int (ss % (24 : Int32))), .unset, .unset, .unset, .unset, .unset, .unset, .unset, .unset, .unset, .unset, .unset, .unset, .unset, .unset, .unset, .unset, .unset, .unset, .unset]) rfl ?_
    refine XS.iload X85.here hx rfl (hb hby at_161) rfl ?_
    refine XS.iconst X85.here hx rfl (hb hby at_163) ?_
    refine XS.isub X85.here hx rfl (hb hby at_164) rfl ?_
    refine XS.iload X85.here hx rfl (hb hby at_165) rfl ?_
    refine XS.isub X85.here hx rfl (hb hby at_167) rfl ?_
    show Steps p.tables e below (T85.setTop (mkF m 168 #[.val (.long cc), .second, .val (.int rate), .val (.int days), .val (.int y), .val (.int pp), .val (.int ss), .val (.ref b), .val (.long (9223372036854775807 : Int64)), .second, .val (.int (ydF y)), .val (.int (pp % (24 : Int32))), .val (.int (ss % (24 : Int32))), .unset, .unset, .unset, .unset, .unset, .unset, .unset, .unset, .unset, .unset, .unset, .unset, .unset, .unset, .unset, .unset, .unset, .unset, .unset] [(.int (tL pp ss))])) _
    refine XS.istore X85.here hx rfl (hb hby at_168) rfl (l' := #[.val (.long cc), .second, .val (.int rate), .val (.int days), .val (.int y), .val (.int pp), .val (.int ss), .val (.ref b), .val (.long (9223372036854775807 : Int64)), .second, .val (.int (ydF y)), .val (.int (pp % (24 : Int32))), .val (.int (ss % (24 : Int32))), .val (.int (tL pp ss)), .unset, .unset, .unset, .unset, .unset, .unset, .unset, .unset, .unset, .unset, .unset, .unset, .unset, .unset, .unset, .unset, .unset, .unset]) rfl ?_
    refine XS.iload X85.here hx rfl (hb hby at_170) rfl ?_
    refine XS.bipush X85.here hx rfl (hb hby at_172) ?_
    refine XS.icmpNo X85.here hx rfl (hb hby at_174) rfl (flt hc174).2.2.1 ?_
    refine XS.iload X85.here hx rfl (hb hby at_177) rfl ?_
    refine XS.bipush X85.here hx rfl (hb hby at_179) ?_
    refine XS.icmpNo X85.here hx rfl (hb hby at_181) rfl (tlt hc181).2.1 ?_
    refine XS.lloadN X85.here hx rfl (hb hby at_184) rfl ?_
    show Steps p.tables e below (T85.setTop (mkF m 185 #[.val (.long cc), .second, .val (.int rate), .val (.int days), .val (.int y), .val (.int pp), .val (.int ss), .val (.ref b), .val (.long (9223372036854775807 : Int64)), .second, .val (.int (ydF y)), .val (.int (pp % (24 : Int32))), .val (.int (ss % (24 : Int32))), .val (.int (tL pp ss)), .unset, .unset, .unset, .unset, .unset, .unset, .unset, .unset, .unset, .unset, .unset, .unset, .unset, .unset, .unset, .unset, .unset, .unset] [(.long cc)])) _
    refine XS.iloadN X85.here hx rfl (hb hby at_185) rfl ?_
    refine XS.i2l X85.here hx rfl (hb hby at_186) rfl ?_
    refine XS.iload X85.here hx rfl (hb hby at_187) rfl ?_
    refine XS.iloadN X85.here hx rfl (hb hby at_189) rfl ?_
    refine XS.i2l X85.here hx rfl (hb hby at_190) rfl ?_
    refine XS.iload X85.here hx rfl (hb hby at_191) rfl ?_
    refine XS.iload X85.here hx rfl (hb hby at_193) rfl ?_
    show Steps p.tables e below (T85.setTop (mkF m 195 #[.val (.long cc), .second, .val (.int rate), .val (.int days), .val (.int y), .val (.int pp), .val (.int ss), .val (.ref b), .val (.long (9223372036854775807 : Int64)), .second, .val (.int (ydF y)), .val (.int (pp % (24 : Int32))), .val (.int (ss % (24 : Int32))), .val (.int (tL pp ss)), .unset, .unset, .unset, .unset, .unset, .unset, .unset, .unset, .unset, .unset, .unset, .unset, .unset, .unset, .unset, .unset, .unset, .unset] [(.int (pp % (24 : Int32))), (.int (ydF y)), (.long (days.toInt64)), (.int (ss % (24 : Int32))), (.long (rate.toInt64)), (.long cc)])) _
    refine st86 _ ?_
    refine X86.ldc2Long hx hown (mvT hZ (hw _ (List.mem_of_getElem? (i := 56) rfl))) (g := (mkF m 198 #[.val (.long cc), .second, .val (.int rate), .val (.int days), .val (.int y), .val (.int pp), .val (.int ss), .val (.ref b), .val (.long (9223372036854775807 : Int64)), .second, .val (.int (ydF y)), .val (.int (pp % (24 : Int32))), .val (.int (ss % (24 : Int32))), .val (.int (tL pp ss)), .unset, .unset, .unset, .unset, .unset, .unset, .unset, .unset, .unset, .unset, .unset, .unset, .unset, .unset, .unset, .unset, .unset, .unset] [(.long (-9223372036854775808 : Int64))])) rfl (hb hby at_198) _ ?_
    refine XS.lcmp X86.here hx rfl (hb hby at_201) rfl ?_
    refine XS.ifNo X86.here hx rfl (hb hby at_202) rfl ((if0 _ _).trans (teq hc202).2) ?_
    refine XS.iconst X86.here hx rfl (hb hby at_205) ?_
    refine XS.goto X86.here hx rfl (pc0 := 206) (pc' := 210) rfl (hb hby at_206) (by decide) (by decide) ?_
    show Steps p.tables e below (T86.setTop (mkF m 210 #[.val (.long cc), .second, .val (.int rate), .val (.int days), .val (.int y), .val (.int pp), .val (.int ss), .val (.ref b), .val (.long (9223372036854775807 : Int64)), .second, .val (.int (ydF y)), .val (.int (pp % (24 : Int32))), .val (.int (ss % (24 : Int32))), .val (.int (tL pp ss)), .unset, .unset, .unset, .unset, .unset, .unset, .unset, .unset, .unset, .unset, .unset, .unset, .unset, .unset, .unset, .unset, .unset, .unset] [(.int (1 : Int32))])) _
    exact retN X86 hx (t := .boolean) Bd.returns (by simp) (hb hby at_210) hr
  · show Q0  h0 n0 _ T86.heap _
    exact ⟨rfl, N86⟩
set_option maxRecDepth 65536 in
set_option maxHeartbeats 40000000 in
theorem rm0_B (l : Launch) (Z : State) (a0 : Array Value) (hw : ∀ d ∈ tables_1, d.before a0 Z = true) (ws : List Jvm.Cond) (cc : Int64) (rate : Int32) (days : Int32) (y : Int32) (pp : Int32) (ss : Int32) (N : Nat) (h0 : Heap) (n0 : Nat) (Z0 : n0 ≤ h0.size) (hj : (tL pp ss) = Int32.ofNat N) (hj1 : N < 19) (hc174 : ¬ ((18 : Int32) < (tL pp ss))) (hc181 : ¬ ((tL pp ss) < (-18 : Int32))) (hc220 : (0 : Int32) < (tL pp ss)) (hnz235 : ¬ ((powF N) = (0 : Int64))) (hc237 : (0 : Int32) < (lcmpW (absL (rdF rate days)) ((9223372036854775807 : Int64) / (powF N)))) (hN : absI (tA (pp % (24 : Int32)) (ss % (24 : Int32))) = Int32.ofNat N) (hN1 : N < 100) (fhc18 : ¬ ((18 : Int32) < (absI (tA (pp % (24 : Int32)) (ss % (24 : Int32)))))) (fhc37 : (0 : Int32) < (tA (pp % (24 : Int32)) (ss % (24 : Int32)))) (fhc50 : (0 : Int32) < (tA (pp % (24 : Int32)) (ss % (24 : Int32)))) (fhc67 : ¬ ((proF (rate.toInt64) (days.toInt64)) = (0 : Int32))) (fhc79 : (proF ((rate.toInt64) * (days.toInt64)) (powF N)) = (0 : Int32)) (hc258 : (lcmpW (-9223372036854775808 : Int64) (-9223372036854775808 : Int64)) = (0 : Int32)) :
    MetFree l x (head1 (Jvm.Cond.code x code maxLocals ret :: ws) room_1) (fun aa U => aa = #[(.long cc), (.int rate), (.int days), (.int y), (.int pp), (.int ss)] ∧ Z.Warmed39 U.vm ∧ U.heap = h0) (fun _ _ _ _ _ => True) (fun _ U o U' => ∃ v L, o = .returned v ∧ Q0  h0 n0 v U'.heap L ∧ FrameEnd U o U' L room_1.cells room_1.slots) := by
  refine MetFree.of_bodySF (plainFor_of_name pn_0) hisR ?_
  intro p e s m args below meth c s₁ Bd hml0 hP hK
  obtain ⟨rfl, hZ, hh⟩ := hP
  have hx := Bd.exec
  have hby := Bd.bytes
  have hml : c.maxLocals = 32 := hml0
  have hown : s.vm.findClass "com/example/syndicata/syndicata/AccrualAccruedUnitsPinLaw" = some m.cls := findClass_of_methodNamed Bd.named
  have hnm := (name_of_methodNamed Bd.named Bd.method).1
  have X0 : Stand p l e room_1 s m #[(.long cc), (.int rate), (.int days), (.int y), (.int pp), (.int ss)] below meth c s₁ [] 0 0 := Stand.of_body Bd
  have e0 : s₁.heap = h0 := by rw [← hh, Bd.state]; rfl
  have N0 := Fr.nil n0
  have pre0 : ∀ zz, Steps p.tables e below (s₁.setTop (mkF m 0 #[.val (.long cc), .second, .val (.int rate), .val (.int days), .val (.int y), .val (.int pp), .val (.int ss), .unset, .unset, .unset, .unset, .unset, .unset, .unset, .unset, .unset, .unset, .unset, .unset, .unset, .unset, .unset, .unset, .unset, .unset, .unset, .unset, .unset, .unset, .unset, .unset, .unset] [])) zz → Steps p.tables e below (s₁.setTop (entryFrame m #[(.long cc), (.int rate), (.int days), (.int y), (.int pp), (.int ss)] maxLocals)) zz := fun zz k => castTop (ef_0 m cc rate days y pp ss) k
  obtain ⟨Tf, hf1, b, kk, locs1, Xf, ef, Zf, Vf, Nf, stf⟩ := fill0 (n0 := n0) cc rate days y pp ss X0 hx hZ hw hby hown e0 Z0
  obtain ⟨cl, Ar, q_, S_, N_, H_, G_⟩ := Vf
  have hjc : ((tL pp ss)).toNatClampNeg = N := by rw [hj]; exact ofNat_clamp (by omega)
  have hsz : cl.slots.size = 19 := S_
  have hin : ¬ ((tL pp ss) < 0 ∨ cl.slots.size ≤ ((tL pp ss)).toNatClampNeg) := by rw [hjc, hsz]; exact fun q => q.elim (by rw [hj]; exact ofNat_nn (by omega)) (fun q => absurd q (by omega))
  have hat : cl.slots[((tL pp ss)).toNatClampNeg]? = some (.long (powF N)) := by rw [hjc, H_ N (by omega), tens_at N hj1]
  obtain ⟨_, _, ⟨T87, L87, k87, n87⟩, -, X87, ⟨Lc87, hQ87, l87, y87, z87⟩, st87⟩ := Jvm.LawKit.callS Xf hx (y := (⟨"java/lang/Math", "max", "(II)I"⟩ : MethodName)) hown (mvT hZ (hw _ (List.mem_of_getElem? (i := 21) rfl))) (mvT hZ (hw _ (List.mem_of_getElem? (i := 22) rfl))) (mvT hZ (hw _ (List.mem_of_getElem? (i := 23) rfl))) (mvT hZ (hw _ (List.mem_of_getElem? (i := 24) rfl))) (by decide) (backOf (W := 0) (rm1 l Z a0 hw [] (1 : Int32) (y &&& (2147483647 : Int32)) hf1 n0 Zf) hZ (hw _ (List.mem_of_getElem? (i := 24) rfl)) (hw _ (List.mem_of_getElem? (i := 23) rfl)) (by decide) (by decide)) (g := (mkF m 142 #[.val (.long cc), .second, .val (.int rate), .val (.int days), .val (.int y), .val (.int pp), .val (.int ss), .val (.ref b), .val (.long (9223372036854775807 : Int64)), .second, .unset, .unset, .unset, .unset, .unset, .unset, .unset, .unset, .unset, .unset, .unset, .unset, .unset, .unset, .unset, .unset, .unset, .unset, .unset, .unset, .unset, .unset] [(.int (y &&& (2147483647 : Int32))), (.int (1 : Int32))])) rfl (by rw [hml]; rfl) (argsL := [(.int (1 : Int32)), (.int (y &&& (2147483647 : Int32)))]) (rest := []) (lenOf pd_0 rfl) rfl (by show 2 * 0 + _ ≤ _; exact Nat.le_of_eq rfl) (hb hby at_142) (fun _ _ => ⟨rfl, ef, (by decide : 1 + 0 ≤ _), (by decide : 19 + 0 ≤ _)⟩)
  dsimp only [Pt.U, Pt.locs, Pt.cells, Pt.slots] at X87 l87 y87 z87 st87 hQ87
  subst l87 y87 z87
  obtain ⟨rfl, N87q, e87⟩ := hQ87
  have N87 := Fr.app Nf N87q
  obtain ⟨_, _, ⟨T88, L88, k88, n88⟩, -, X88, ⟨Lc88, hQ88, l88, y88, z88⟩, st88⟩ := Jvm.LawKit.callS X87 hx (y := (⟨"java/lang/Math", "abs", "(J)J"⟩ : MethodName)) hown (mvT hZ (hw _ (List.mem_of_getElem? (i := 25) rfl))) (mvT hZ (hw _ (List.mem_of_getElem? (i := 26) rfl))) (mvT hZ (hw _ (List.mem_of_getElem? (i := 23) rfl))) (mvT hZ (hw _ (List.mem_of_getElem? (i := 27) rfl))) (by decide) (backOf (W := 0) (rm2 l Z a0 hw [] (rdF rate days) hf1 n0 Zf) hZ (hw _ (List.mem_of_getElem? (i := 27) rfl)) (hw _ (List.mem_of_getElem? (i := 23) rfl)) (by decide) (by decide)) (g := (mkF m 225 #[.val (.long cc), .second, .val (.int rate), .val (.int days), .val (.int y), .val (.int pp), .val (.int ss), .val (.ref b), .val (.long (9223372036854775807 : Int64)), .second, .val (.int (ydF y)), .val (.int (pp % (24 : Int32))), .val (.int (ss % (24 : Int32))), .val (.int (tL pp ss)), .val (.long (rdF rate days)), .second, .unset, .unset, .unset, .unset, .unset, .unset, .unset, .unset, .unset, .unset, .unset, .unset, .unset, .unset, .unset, .unset] [(.long (rdF rate days))])) rfl (by rw [hml]; rfl) (argsL := [(.long (rdF rate days))]) (rest := []) (lenOf pd_1 rfl) rfl (by show 2 * 0 + _ ≤ _; exact Nat.le_of_eq rfl) (hb hby at_225) (fun _ _ => ⟨rfl, e87, (by decide : 1 + 0 ≤ _), (by decide : 19 + 0 ≤ _)⟩)
  dsimp only [Pt.U, Pt.locs, Pt.cells, Pt.slots] at X88 l88 y88 z88 st88 hQ88
  subst l88 y88 z88
  obtain ⟨rfl, N88q, e88⟩ := hQ88
  have N88 := Fr.app N87 N88q
  obtain ⟨_, _, ⟨T89, L89, k89, n89⟩, -, X89, ⟨Lc89, hQ89, l89, y89, z89⟩, st89⟩ := Jvm.LawKit.callS X88 hx (y := (⟨"com/example/syndicata/syndicata/Accrual", "accruedUnits", "(JJIJII)J"⟩ : MethodName)) hown (mvT hZ (hw _ (List.mem_of_getElem? (i := 28) rfl))) (mvT hZ (hw _ (List.mem_of_getElem? (i := 29) rfl))) (mvT hZ (hw _ (List.mem_of_getElem? (i := 30) rfl))) (mvT hZ (hw _ (List.mem_of_getElem? (i := 31) rfl))) (by decide) (backOf (W := 0) (rm3_B l Z a0 hw [] cc (rate.toInt64) (ss % (24 : Int32)) (days.toInt64) (ydF y) (pp % (24 : Int32)) N hf1 n0 Zf hN hN1 fhc18 fhc37 fhc50 fhc67 fhc79) hZ (hw _ (List.mem_of_getElem? (i := 31) rfl)) (hw _ (List.mem_of_getElem? (i := 30) rfl)) (by decide) (by decide)) (g := (mkF m 251 #[.val (.long cc), .second, .val (.int rate), .val (.int days), .val (.int y), .val (.int pp), .val (.int ss), .val (.ref b), .val (.long (9223372036854775807 : Int64)), .second, .val (.int (ydF y)), .val (.int (pp % (24 : Int32))), .val (.int (ss % (24 : Int32))), .val (.int (tL pp ss)), .val (.long (rdF rate days)), .second, .unset, .unset, .unset, .unset, .unset, .unset, .unset, .unset, .unset, .unset, .unset, .unset, .unset, .unset, .unset, .unset] [(.int (pp % (24 : Int32))), (.int (ydF y)), (.long (days.toInt64)), (.int (ss % (24 : Int32))), (.long (rate.toInt64)), (.long cc)])) rfl (by rw [hml]; rfl) (argsL := [(.long cc), (.long (rate.toInt64)), (.int (ss % (24 : Int32))), (.long (days.toInt64)), (.int (ydF y)), (.int (pp % (24 : Int32)))]) (rest := []) (lenOf pd_2 rfl) rfl (by show 2 * 0 + _ ≤ _; exact Nat.le_of_eq rfl) (hb hby at_251) (fun _ _ => ⟨rfl, e88, (by decide : 1 + 0 ≤ _), (by decide : 19 + 0 ≤ _)⟩)
  dsimp only [Pt.U, Pt.locs, Pt.cells, Pt.slots] at X89 l89 y89 z89 st89 hQ89
  subst l89 y89 z89
  obtain ⟨rfl, N89q, e89⟩ := hQ89
  have N89 := Fr.app N88 N89q
  obtain ⟨fs, hr, hrun, hended, hW, hsame⟩ := X89.leave (v := some (.int (1 : Int32))) (fun h => by rw [Bd.returns] at h; cases h)
  refine ⟨_, _, pre0 _ ?_, hrun, hended, _, _, rfl, ?_, ⟨_, rfl⟩, hW, hsame.mono (by decide) (by decide)⟩
  · show Steps p.tables e below (s₁.setTop (mkF m 0 #[.val (.long cc), .second, .val (.int rate), .val (.int days), .val (.int y), .val (.int pp), .val (.int ss), .unset, .unset, .unset, .unset, .unset, .unset, .unset, .unset, .unset, .unset, .unset, .unset, .unset, .unset, .unset, .unset, .unset, .unset, .unset, .unset, .unset, .unset, .unset, .unset, .unset] [])) _
    refine stf _ ?_
    show Steps p.tables e below (Tf.setTop (mkF m 131 #[.val (.long cc), .second, .val (.int rate), .val (.int days), .val (.int y), .val (.int pp), .val (.int ss), .val (.ref b), .unset, .unset, .unset, .unset, .unset, .unset, .unset, .unset, .unset, .unset, .unset, .unset, .unset, .unset, .unset, .unset, .unset, .unset, .unset, .unset, .unset, .unset, .unset, .unset] [])) _
    refine Xf.ldc2Long hx hown (mvT hZ (hw _ (List.mem_of_getElem? (i := 19) rfl))) (g := (mkF m 131 #[.val (.long cc), .second, .val (.int rate), .val (.int days), .val (.int y), .val (.int pp), .val (.int ss), .val (.ref b), .unset, .unset, .unset, .unset, .unset, .unset, .unset, .unset, .unset, .unset, .unset, .unset, .unset, .unset, .unset, .unset, .unset, .unset, .unset, .unset, .unset, .unset, .unset, .unset] [])) rfl (hb hby at_131) _ ?_
    refine XS.lstore Xf.here hx rfl (hb hby at_134) rfl (l' := #[.val (.long cc), .second, .val (.int rate), .val (.int days), .val (.int y), .val (.int pp), .val (.int ss), .val (.ref b), .val (.long (9223372036854775807 : Int64)), .second, .unset, .unset, .unset, .unset, .unset, .unset, .unset, .unset, .unset, .unset, .unset, .unset, .unset, .unset, .unset, .unset, .unset, .unset, .unset, .unset, .unset, .unset]) rfl ?_
    refine XS.iconst Xf.here hx rfl (hb hby at_136) ?_
    refine XS.iload Xf.here hx rfl (hb hby at_137) rfl ?_
    refine Xf.ldcInt hx hown (mvT hZ (hw _ (List.mem_of_getElem? (i := 20) rfl))) (g := (mkF m 139 #[.val (.long cc), .second, .val (.int rate), .val (.int days), .val (.int y), .val (.int pp), .val (.int ss), .val (.ref b), .val (.long (9223372036854775807 : Int64)), .second, .unset, .unset, .unset, .unset, .unset, .unset, .unset, .unset, .unset, .unset, .unset, .unset, .unset, .unset, .unset, .unset, .unset, .unset, .unset, .unset, .unset, .unset] [(.int y), (.int (1 : Int32))])) rfl (hb hby at_139) _ ?_
    refine XS.iand Xf.here hx rfl (hb hby at_141) rfl ?_
    show Steps p.tables e below (Tf.setTop (mkF m 142 #[.val (.long cc), .second, .val (.int rate), .val (.int days), .val (.int y), .val (.int pp), .val (.int ss), .val (.ref b), .val (.long (9223372036854775807 : Int64)), .second, .unset, .unset, .unset, .unset, .unset, .unset, .unset, .unset, .unset, .unset, .unset, .unset, .unset, .unset, .unset, .unset, .unset, .unset, .unset, .unset, .unset, .unset] [(.int (y &&& (2147483647 : Int32))), (.int (1 : Int32))])) _
    refine st87 _ ?_
    show Steps p.tables e below (T87.setTop (mkF m 145 #[.val (.long cc), .second, .val (.int rate), .val (.int days), .val (.int y), .val (.int pp), .val (.int ss), .val (.ref b), .val (.long (9223372036854775807 : Int64)), .second, .unset, .unset, .unset, .unset, .unset, .unset, .unset, .unset, .unset, .unset, .unset, .unset, .unset, .unset, .unset, .unset, .unset, .unset, .unset, .unset, .unset, .unset] [(.int (ydF y))])) _
    refine XS.istore X87.here hx rfl (hb hby at_145) rfl (l' := #[.val (.long cc), .second, .val (.int rate), .val (.int days), .val (.int y), .val (.int pp), .val (.int ss), .val (.ref b), .val (.long (9223372036854775807 : Int64)), .second, .val (.int (ydF y)), .unset, .unset, .unset, .unset, .unset, .unset, .unset, .unset, .unset, .unset, .unset, .unset, .unset, .unset, .unset, .unset, .unset, .unset, .unset, .unset, .unset]) rfl ?_
    refine XS.iload X87.here hx rfl (hb hby at_147) rfl ?_
    refine XS.bipush X87.here hx rfl (hb hby at_149) ?_
    refine gwIrem X87.here hx rfl (hb hby at_151) rfl (by decide : ¬ ((24 : Int32) = (0 : Int32))) ?_
    refine XS.istore X87.here hx rfl (hb hby at_152) rfl (l' := #[.val (.long cc), .second, .val (.int rate), .val (.int days), .val (.int y), .val (.int pp), .val (.int ss), .val (.ref b), .val (.long (9223372036854775807 : Int64)), .second, .val (.int (ydF y)), .val (.int (pp % (24 : Int32))), .unset, .unset, .unset, .unset, .unset, .unset, .unset, .unset, .unset, .unset, .unset, .unset, .unset, .unset, .unset, .unset, .unset, .unset, .unset, .unset]) rfl ?_
    refine XS.iload X87.here hx rfl (hb hby at_154) rfl ?_
    refine XS.bipush X87.here hx rfl (hb hby at_156) ?_
    refine gwIrem X87.here hx rfl (hb hby at_158) rfl (by decide : ¬ ((24 : Int32) = (0 : Int32))) ?_
    show Steps p.tables e below (T87.setTop (mkF m 159 #[.val (.long cc), .second, .val (.int rate), .val (.int days), .val (.int y), .val (.int pp), .val (.int ss), .val (.ref b), .val (.long (9223372036854775807 : Int64)), .second, .val (.int (ydF y)), .val (.int (pp % (24 : Int32))), .unset, .unset, .unset, .unset, .unset, .unset, .unset, .unset, .unset, .unset, .unset, .unset, .unset, .unset, .unset, .unset, .unset, .unset, .unset, .unset] [(.int (ss % (24 : Int32)))])) _
    refine XS.istore X87.here hx rfl (hb hby at_159) rfl (l' := #[.val (.long cc), .second, .val (.int rate), .val (.int days), .val (.int y), .val (.int pp), .val (.int ss), .val (.ref b), .val (.long (9223372036854775807 : Int64)), .second, .val (.int (ydF y)), .val (.int (pp % (24 : Int32))), .val (.int (ss % (24 : Int32))), .unset, .unset, .unset, .unset, .unset, .unset, .unset, .unset, .unset, .unset, .unset, .unset, .unset, .unset, .unset, .unset, .unset, .unset, .unset]) rfl ?_
    refine XS.iload X87.here hx rfl (hb hby at_161) rfl ?_
    refine XS.iconst X87.here hx rfl (hb hby at_163) ?_
    refine XS.isub X87.here hx rfl (hb hby at_164) rfl ?_
    refine XS.iload X87.here hx rfl (hb hby at_165) rfl ?_
    refine XS.isub X87.here hx rfl (hb hby at_167) rfl ?_
    show Steps p.tables e below (T87.setTop (mkF m 168 #[.val (.long cc), .second, .val (.int rate), .val (.int days), .val (.int y), .val (.int pp), .val (.int ss), .val (.ref b), .val (.long (9223372036854775807 : Int64)), .second, .val (.int (ydF y)), .val (.int (pp % (24 : Int32))), .val (.int (ss % (24 : Int32))), .unset, .unset, .unset, .unset, .unset, .unset, .unset, .unset, .unset, .unset, .unset, .unset, .unset, .unset, .unset, .unset, .unset, .unset, .unset] [(.int (tL pp ss))])) _
    refine XS.istore X87.here hx rfl (hb hby at_168) rfl (l' := #[.val (.long cc), .second, .val (.int rate), .val (.int days), .val (.int y), .val (.int pp), .val (.int ss), .val (.ref b), .val (.long (9223372036854775807 : Int64)), .second, .val (.int (ydF y)), .val (.int (pp % (24 : Int32))), .val (.int (ss % (24 : Int32))), .val (.int (tL pp ss)), .unset, .unset, .unset, .unset, .unset, .unset, .unset, .unset, .unset, .unset, .unset, .unset, .unset, .unset, .unset, .unset, .unset, .unset]) rfl ?_
    refine XS.iload X87.here hx rfl (hb hby at_170) rfl ?_
    refine XS.bipush X87.here hx rfl (hb hby at_172) ?_
    refine XS.icmpNo X87.here hx rfl (hb hby at_174) rfl (flt hc174).2.2.1 ?_
    refine XS.iload X87.here hx rfl (hb hby at_177) rfl ?_
    refine XS.bipush X87.here hx rfl (hb hby at_179) ?_
    refine XS.icmpYes X87.here hx rfl (pc0 := 181) (pc' := 211) rfl (hb hby at_181) rfl (flt hc181).2.1 (by decide) (by decide) ?_
    refine XS.iloadN X87.here hx rfl (hb hby at_211) rfl ?_
    show Steps p.tables e below (T87.setTop (mkF m 212 #[.val (.long cc), .second, .val (.int rate), .val (.int days), .val (.int y), .val (.int pp), .val (.int ss), .val (.ref b), .val (.long (9223372036854775807 : Int64)), .second, .val (.int (ydF y)), .val (.int (pp % (24 : Int32))), .val (.int (ss % (24 : Int32))), .val (.int (tL pp ss)), .unset, .unset, .unset, .unset, .unset, .unset, .unset, .unset, .unset, .unset, .unset, .unset, .unset, .unset, .unset, .unset, .unset, .unset] [(.int rate)])) _
    refine XS.i2l X87.here hx rfl (hb hby at_212) rfl ?_
    refine XS.iloadN X87.here hx rfl (hb hby at_213) rfl ?_
    refine XS.i2l X87.here hx rfl (hb hby at_214) rfl ?_
    refine XS.lmul X87.here hx rfl (hb hby at_215) rfl ?_
    show Steps p.tables e below (T87.setTop (mkF m 216 #[.val (.long cc), .second, .val (.int rate), .val (.int days), .val (.int y), .val (.int pp), .val (.int ss), .val (.ref b), .val (.long (9223372036854775807 : Int64)), .second, .val (.int (ydF y)), .val (.int (pp % (24 : Int32))), .val (.int (ss % (24 : Int32))), .val (.int (tL pp ss)), .unset, .unset, .unset, .unset, .unset, .unset, .unset, .unset, .unset, .unset, .unset, .unset, .unset, .unset, .unset, .unset, .unset, .unset] [(.long (rdF rate days))])) _
    refine XS.lstore X87.here hx rfl (hb hby at_216) rfl (l' := #[.val (.long cc), .second, .val (.int rate), .val (.int days), .val (.int y), .val (.int pp), .val (.int ss), .val (.ref b), .val (.long (9223372036854775807 : Int64)), .second, .val (.int (ydF y)), .val (.int (pp % (24 : Int32))), .val (.int (ss % (24 : Int32))), .val (.int (tL pp ss)), .val (.long (rdF rate days)), .second, .unset, .unset, .unset, .unset, .unset, .unset, .unset, .unset, .unset, .unset, .unset, .unset, .unset, .unset, .unset, .unset]) rfl ?_
    refine XS.iload X87.here hx rfl (hb hby at_218) rfl ?_
    refine XS.ifNo X87.here hx rfl (hb hby at_220) rfl ((if0 _ _).trans (tlt hc220).2.2.2) ?_
    refine XS.lload X87.here hx rfl (hb hby at_223) rfl ?_
    show Steps p.tables e below (T87.setTop (mkF m 225 #[.val (.long cc), .second, .val (.int rate), .val (.int days), .val (.int y), .val (.int pp), .val (.int ss), .val (.ref b), .val (.long (9223372036854775807 : Int64)), .second, .val (.int (ydF y)), .val (.int (pp % (24 : Int32))), .val (.int (ss % (24 : Int32))), .val (.int (tL pp ss)), .val (.long (rdF rate days)), .second, .unset, .unset, .unset, .unset, .unset, .unset, .unset, .unset, .unset, .unset, .unset, .unset, .unset, .unset, .unset, .unset] [(.long (rdF rate days))])) _
    refine st88 _ ?_
    refine XS.lload X88.here hx rfl (hb hby at_228) rfl ?_
    refine XS.aload X88.here hx rfl (hb hby at_230) rfl rfl ?_
    refine XS.iload X88.here hx rfl (hb hby at_232) rfl ?_
    show Steps p.tables e below (T88.setTop (mkF m 234 #[.val (.long cc), .second, .val (.int rate), .val (.int days), .val (.int y), .val (.int pp), .val (.int ss), .val (.ref b), .val (.long (9223372036854775807 : Int64)), .second, .val (.int (ydF y)), .val (.int (pp % (24 : Int32))), .val (.int (ss % (24 : Int32))), .val (.int (tL pp ss)), .val (.long (rdF rate days)), .second, .unset, .unset, .unset, .unset, .unset, .unset, .unset, .unset, .unset, .unset, .unset, .unset, .unset, .unset, .unset, .unset] [(.int (tL pp ss)), (.ref b), (.long (9223372036854775807 : Int64)), (.long (absL (rdF rate days)))])) _
    refine X88.laload hx (j := (tL pp ss)) (v := (.long (powF N))) (by rw [e88]; exact Ar.1) (State.isArrayOf_alike hZ.alike Ar.2.1) Ar.2.2 hin hat (g := (mkF m 234 #[.val (.long cc), .second, .val (.int rate), .val (.int days), .val (.int y), .val (.int pp), .val (.int ss), .val (.ref b), .val (.long (9223372036854775807 : Int64)), .second, .val (.int (ydF y)), .val (.int (pp % (24 : Int32))), .val (.int (ss % (24 : Int32))), .val (.int (tL pp ss)), .val (.long (rdF rate days)), .second, .unset, .unset, .unset, .unset, .unset, .unset, .unset, .unset, .unset, .unset, .unset, .unset, .unset, .unset, .unset, .unset] [(.int (tL pp ss)), (.ref b), (.long (9223372036854775807 : Int64)), (.long (absL (rdF rate days)))])) rfl rfl (hb hby at_234) _ ?_
    refine XS.ldiv X88.here hx rfl (hb hby at_235) rfl hnz235 ?_
    refine XS.lcmp X88.here hx rfl (hb hby at_236) rfl ?_
    refine XS.ifNo X88.here hx rfl (hb hby at_237) rfl ((if0 _ _).trans (tlt hc237).2.2.2) ?_
    refine XS.lloadN X88.here hx rfl (hb hby at_240) rfl ?_
    refine XS.iloadN X88.here hx rfl (hb hby at_241) rfl ?_
    refine XS.i2l X88.here hx rfl (hb hby at_242) rfl ?_
    refine XS.iload X88.here hx rfl (hb hby at_243) rfl ?_
    show Steps p.tables e below (T88.setTop (mkF m 245 #[.val (.long cc), .second, .val (.int rate), .val (.int days), .val (.int y), .val (.int pp), .val (.int ss), .val (.ref b), .val (.long (9223372036854775807 : Int64)), .second, .val (.int (ydF y)), .val (.int (pp % (24 : Int32))), .val (.int (ss % (24 : Int32))), .val (.int (tL pp ss)), .val (.long (rdF rate days)), .second, .unset, .unset, .unset, .unset, .unset, .unset, .unset, .unset, .unset, .unset, .unset, .unset, .unset, .unset, .unset, .unset] [(.int (ss % (24 : Int32))), (.long (rate.toInt64)), (.long cc)])) _
    refine XS.iloadN X88.here hx rfl (hb hby at_245) rfl ?_
    refine XS.i2l X88.here hx rfl (hb hby at_246) rfl ?_
    refine XS.iload X88.here hx rfl (hb hby at_247) rfl ?_
    refine XS.iload X88.here hx rfl (hb hby at_249) rfl ?_
    show Steps p.tables e below (T88.setTop (mkF m 251 #[.val (.long cc), .second, .val (.int rate), .val (.int days), .val (.int y), .val (.int pp), .val (.int ss), .val (.ref b), .val (.long (9223372036854775807 : Int64)), .second, .val (.int (ydF y)), .val (.int (pp % (24 : Int32))), .val (.int (ss % (24 : Int32))), .val (.int (tL pp ss)), .val (.long (rdF rate days)), .second, .unset, .unset, .unset, .unset, .unset, .unset, .unset, .unset, .unset, .unset, .unset, .unset, .unset, .unset, .unset, .unset] [(.int (pp % (24 : Int32))), (.int (ydF y)), (.long (days.toInt64)), (.int (ss % (24 : Int32))), (.long (rate.toInt64)), (.long cc)])) _
    refine st89 _ ?_
    refine X89.ldc2Long hx hown (mvT hZ (hw _ (List.mem_of_getElem? (i := 56) rfl))) (g := (mkF m 254 #[.val (.long cc), .second, .val (.int rate), .val (.int days), .val (.int y), .val (.int pp), .val (.int ss), .val (.ref b), .val (.long (9223372036854775807 : Int64)), .second, .val (.int (ydF y)), .val (.int (pp % (24 : Int32))), .val (.int (ss % (24 : Int32))), .val (.int (tL pp ss)), .val (.long (rdF rate days)), .second, .unset, .unset, .unset, .unset, .unset, .unset, .unset, .unset, .unset, .unset, .unset, .unset, .unset, .unset, .unset, .unset] [(.long (-9223372036854775808 : Int64))])) rfl (hb hby at_254) _ ?_
    refine XS.lcmp X89.here hx rfl (hb hby at_257) rfl ?_
    refine XS.ifNo X89.here hx rfl (hb hby at_258) rfl ((if0 _ _).trans (teq hc258).2) ?_
    refine XS.iconst X89.here hx rfl (hb hby at_261) ?_
    refine XS.goto X89.here hx rfl (pc0 := 262) (pc' := 266) rfl (hb hby at_262) (by decide) (by decide) ?_
    show Steps p.tables e below (T89.setTop (mkF m 266 #[.val (.long cc), .second, .val (.int rate), .val (.int days), .val (.int y), .val (.int pp), .val (.int ss), .val (.ref b), .val (.long (9223372036854775807 : Int64)), .second, .val (.int (ydF y)), .val (.int (pp % (24 : Int32))), .val (.int (ss % (24 : Int32))), .val (.int (tL pp ss)), .val (.long (rdF rate days)), .second, .unset, .unset, .unset, .unset, .unset, .unset, .unset, .unset, .unset, .unset, .unset, .unset, .unset, .unset, .unset, .unset] [(.int (1 : Int32))])) _
    exact retN X89 hx (t := .boolean) Bd.returns (by simp) (hb hby at_266) hr
  · show Q0  h0 n0 _ T89.heap _
    exact ⟨rfl, N89⟩
set_option maxRecDepth 65536 in
set_option maxHeartbeats 40000000 in
theorem rm0_C (l : Launch) (Z : State) (a0 : Array Value) (hw : ∀ d ∈ tables_1, d.before a0 Z = true) (ws : List Jvm.Cond) (cc : Int64) (rate : Int32) (days : Int32) (y : Int32) (pp : Int32) (ss : Int32) (N : Nat) (h0 : Heap) (n0 : Nat) (Z0 : n0 ≤ h0.size) (hj : (-(tL pp ss)) = Int32.ofNat N) (hj1 : N < 19) (hc174 : ¬ ((18 : Int32) < (tL pp ss))) (hc181 : ¬ ((tL pp ss) < (-18 : Int32))) (hc220 : ¬ ((0 : Int32) < (tL pp ss))) (hnz300 : ¬ ((powF N) = (0 : Int64))) (hc302 : (0 : Int32) < (lcmpW ((ydF y).toInt64) ((9223372036854775807 : Int64) / (powF N)))) (hN : absI (tA (pp % (24 : Int32)) (ss % (24 : Int32))) = Int32.ofNat N) (hN1 : N < 100) (fhc18 : ¬ ((18 : Int32) < (absI (tA (pp % (24 : Int32)) (ss % (24 : Int32)))))) (fhc37 : ¬ ((0 : Int32) < (tA (pp % (24 : Int32)) (ss % (24 : Int32))))) (fhc50 : ¬ ((0 : Int32) < (tA (pp % (24 : Int32)) (ss % (24 : Int32))))) (fhc67 : ¬ ((proF (rate.toInt64) (days.toInt64)) = (0 : Int32))) (fhc79 : ¬ ((proF ((rate.toInt64) * (days.toInt64)) (1 : Int64)) = (0 : Int32))) (fhc90 : (proF ((ydF y).toInt64) (powF N)) = (0 : Int32)) (hc323 : (lcmpW (-9223372036854775808 : Int64) (-9223372036854775808 : Int64)) = (0 : Int32)) :
    MetFree l x (head1 (Jvm.Cond.code x code maxLocals ret :: ws) room_1) (fun aa U => aa = #[(.long cc), (.int rate), (.int days), (.int y), (.int pp), (.int ss)] ∧ Z.Warmed39 U.vm ∧ U.heap = h0) (fun _ _ _ _ _ => True) (fun _ U o U' => ∃ v L, o = .returned v ∧ Q0  h0 n0 v U'.heap L ∧ FrameEnd U o U' L room_1.cells room_1.slots) := by
  refine MetFree.of_bodySF (plainFor_of_name pn_0) hisR ?_
  intro p e s m args below meth c s₁ Bd hml0 hP hK
  obtain ⟨rfl, hZ, hh⟩ := hP
  have hx := Bd.exec
  have hby := Bd.bytes
  have hml : c.maxLocals = 32 := hml0
  have hown : s.vm.findClass "com/example/syndicata/syndicata/AccrualAccruedUnitsPinLaw" = some m.cls := findClass_of_methodNamed Bd.named
  have hnm := (name_of_methodNamed Bd.named Bd.method).1
  have X0 : Stand p l e room_1 s m #[(.long cc), (.int rate), (.int days), (.int y), (.int pp), (.int ss)] below meth c s₁ [] 0 0 := Stand.of_body Bd
  have e0 : s₁.heap = h0 := by rw [← hh, Bd.state]; rfl
  have N0 := Fr.nil n0
  have pre0 : ∀ zz, Steps p.tables e below (s₁.setTop (mkF m 0 #[.val (.long cc), .second, .val (.int rate), .val (.int days), .val (.int y), .val (.int pp), .val (.int ss), .unset, .unset, .unset, .unset, .unset, .unset, .unset, .unset, .unset, .unset, .unset, .unset, .unset, .unset, .unset, .unset, .unset, .unset, .unset, .unset, .unset, .unset, .unset, .unset, .unset] [])) zz → Steps p.tables e below (s₁.setTop (entryFrame m #[(.long cc), (.int rate), (.int days), (.int y), (.int pp), (.int ss)] maxLocals)) zz := fun zz k => castTop (ef_0 m cc rate days y pp ss) k
  obtain ⟨Tf, hf1, b, kk, locs1, Xf, ef, Zf, Vf, Nf, stf⟩ := fill0 (n0 := n0) cc rate days y pp ss X0 hx hZ hw hby hown e0 Z0
  obtain ⟨cl, Ar, q_, S_, N_, H_, G_⟩ := Vf
  have hjc : ((-(tL pp ss))).toNatClampNeg = N := by rw [hj]; exact ofNat_clamp (by omega)
  have hsz : cl.slots.size = 19 := S_
  have hin : ¬ ((-(tL pp ss)) < 0 ∨ cl.slots.size ≤ ((-(tL pp ss))).toNatClampNeg) := by rw [hjc, hsz]; exact fun q => q.elim (by rw [hj]; exact ofNat_nn (by omega)) (fun q => absurd q (by omega))
  have hat : cl.slots[((-(tL pp ss))).toNatClampNeg]? = some (.long (powF N)) := by rw [hjc, H_ N (by omega), tens_at N hj1]
  obtain ⟨_, _, ⟨T90, L90, k90, n90⟩, -, X90, ⟨Lc90, hQ90, l90, y90, z90⟩, st90⟩ := Jvm.LawKit.callS Xf hx (y := (⟨"java/lang/Math", "max", "(II)I"⟩ : MethodName)) hown (mvT hZ (hw _ (List.mem_of_getElem? (i := 21) rfl))) (mvT hZ (hw _ (List.mem_of_getElem? (i := 22) rfl))) (mvT hZ (hw _ (List.mem_of_getElem? (i := 23) rfl))) (mvT hZ (hw _ (List.mem_of_getElem? (i := 24) rfl))) (by decide) (backOf (W := 0) (rm1 l Z a0 hw [] (1 : Int32) (y &&& (2147483647 : Int32)) hf1 n0 Zf) hZ (hw _ (List.mem_of_getElem? (i := 24) rfl)) (hw _ (List.mem_of_getElem? (i := 23) rfl)) (by decide) (by decide)) (g := (mkF m 142 #[.val (.long cc), .second, .val (.int rate), .val (.int days), .val (.int y), .val (.int pp), .val (.int ss), .val (.ref b), .val (.long (9223372036854775807 : Int64)), .second, .unset, .unset, .unset, .unset, .unset, .unset, .unset, .unset, .unset, .unset, .unset, .unset, .unset, .unset, .unset, .unset, .unset, .unset, .unset, .unset, .unset, .unset] [(.int (y &&& (2147483647 : Int32))), (.int (1 : Int32))])) rfl (by rw [hml]; rfl) (argsL := [(.int (1 : Int32)), (.int (y &&& (2147483647 : Int32)))]) (rest := []) (lenOf pd_0 rfl) rfl (by show 2 * 0 + _ ≤ _; exact Nat.le_of_eq rfl) (hb hby at_142) (fun _ _ => ⟨rfl, ef, (by decide : 1 + 0 ≤ _), (by decide : 19 + 0 ≤ _)⟩)
  dsimp only [Pt.U, Pt.locs, Pt.cells, Pt.slots] at X90 l90 y90 z90 st90 hQ90
  subst l90 y90 z90
  obtain ⟨rfl, N90q, e90⟩ := hQ90
  have N90 := Fr.app Nf N90q
  obtain ⟨_, _, ⟨T91, L91, k91, n91⟩, -, X91, ⟨Lc91, hQ91, l91, y91, z91⟩, st91⟩ := Jvm.LawKit.callS X90 hx (y := (⟨"com/example/syndicata/syndicata/Accrual", "accruedUnits", "(JJIJII)J"⟩ : MethodName)) hown (mvT hZ (hw _ (List.mem_of_getElem? (i := 28) rfl))) (mvT hZ (hw _ (List.mem_of_getElem? (i := 29) rfl))) (mvT hZ (hw _ (List.mem_of_getElem? (i := 30) rfl))) (mvT hZ (hw _ (List.mem_of_getElem? (i := 31) rfl))) (by decide) (backOf (W := 0) (rm3_C l Z a0 hw [] cc (rate.toInt64) (ss % (24 : Int32)) (days.toInt64) (ydF y) (pp % (24 : Int32)) N hf1 n0 Zf hN hN1 fhc18 fhc37 fhc50 fhc67 fhc79 fhc90) hZ (hw _ (List.mem_of_getElem? (i := 31) rfl)) (hw _ (List.mem_of_getElem? (i := 30) rfl)) (by decide) (by decide)) (g := (mkF m 316 #[.val (.long cc), .second, .val (.int rate), .val (.int days), .val (.int y), .val (.int pp), .val (.int ss), .val (.ref b), .val (.long (9223372036854775807 : Int64)), .second, .val (.int (ydF y)), .val (.int (pp % (24 : Int32))), .val (.int (ss % (24 : Int32))), .val (.int (tL pp ss)), .val (.long (rdF rate days)), .second, .unset, .unset, .unset, .unset, .val (.int (-(tL pp ss))), .unset, .unset, .unset, .unset, .unset, .unset, .unset, .unset, .unset, .unset, .unset] [(.int (pp % (24 : Int32))), (.int (ydF y)), (.long (days.toInt64)), (.int (ss % (24 : Int32))), (.long (rate.toInt64)), (.long cc)])) rfl (by rw [hml]; rfl) (argsL := [(.long cc), (.long (rate.toInt64)), (.int (ss % (24 : Int32))), (.long (days.toInt64)), (.int (ydF y)), (.int (pp % (24 : Int32)))]) (rest := []) (lenOf pd_2 rfl) rfl (by show 2 * 0 + _ ≤ _; exact Nat.le_of_eq rfl) (hb hby at_316) (fun _ _ => ⟨rfl, e90, (by decide : 1 + 0 ≤ _), (by decide : 19 + 0 ≤ _)⟩)
  dsimp only [Pt.U, Pt.locs, Pt.cells, Pt.slots] at X91 l91 y91 z91 st91 hQ91
  subst l91 y91 z91
  obtain ⟨rfl, N91q, e91⟩ := hQ91
  have N91 := Fr.app N90 N91q
  obtain ⟨fs, hr, hrun, hended, hW, hsame⟩ := X91.leave (v := some (.int (1 : Int32))) (fun h => by rw [Bd.returns] at h; cases h)
  refine ⟨_, _, pre0 _ ?_, hrun, hended, _, _, rfl, ?_, ⟨_, rfl⟩, hW, hsame.mono (by decide) (by decide)⟩
  · show Steps p.tables e below (s₁.setTop (mkF m 0 #[.val (.long cc), .second, .val (.int rate), .val (.int days), .val (.int y), .val (.int pp), .val (.int ss), .unset, .unset, .unset, .unset, .unset, .unset, .unset, .unset, .unset, .unset, .unset, .unset, .unset, .unset, .unset, .unset, .unset, .unset, .unset, .unset, .unset, .unset, .unset, .unset, .unset] [])) _
    refine stf _ ?_
    show Steps p.tables e below (Tf.setTop (mkF m 131 #[.val (.long cc), .second, .val (.int rate), .val (.int days), .val (.int y), .val (.int pp), .val (.int ss), .val (.ref b), .unset, .unset, .unset, .unset, .unset, .unset, .unset, .unset, .unset, .unset, .unset, .unset, .unset, .unset, .unset, .unset, .unset, .unset, .unset, .unset, .unset, .unset, .unset, .unset] [])) _
    refine Xf.ldc2Long hx hown (mvT hZ (hw _ (List.mem_of_getElem? (i := 19) rfl))) (g := (mkF m 131 #[.val (.long cc), .second, .val (.int rate), .val (.int days), .val (.int y), .val (.int pp), .val (.int ss), .val (.ref b), .unset, .unset, .unset, .unset, .unset, .unset, .unset, .unset, .unset, .unset, .unset, .unset, .unset, .unset, .unset, .unset, .unset, .unset, .unset, .unset, .unset, .unset, .unset, .unset] [])) rfl (hb hby at_131) _ ?_
    refine XS.lstore Xf.here hx rfl (hb hby at_134) rfl (l' := #[.val (.long cc), .second, .val (.int rate), .val (.int days), .val (.int y), .val (.int pp), .val (.int ss), .val (.ref b), .val (.long (9223372036854775807 : Int64)), .second, .unset, .unset, .unset, .unset, .unset, .unset, .unset, .unset, .unset, .unset, .unset, .unset, .unset, .unset, .unset, .unset, .unset, .unset, .unset, .unset, .unset, .unset]) rfl ?_
    refine XS.iconst Xf.here hx rfl (hb hby at_136) ?_
    refine XS.iload Xf.here hx rfl (hb hby at_137) rfl ?_
    refine Xf.ldcInt hx hown (mvT hZ (hw _ (List.mem_of_getElem? (i := 20) rfl))) (g := (mkF m 139 #[.val (.long cc), .second, .val (.int rate), .val (.int days), .val (.int y), .val (.int pp), .val (.int ss), .val (.ref b), .val (.long (9223372036854775807 : Int64)), .second, .unset, .unset, .unset, .unset, .unset, .unset, .unset, .unset, .unset, .unset, .unset, .unset, .unset, .unset, .unset, .unset, .unset, .unset, .unset, .unset, .unset, .unset] [(.int y), (.int (1 : Int32))])) rfl (hb hby at_139) _ ?_
    refine XS.iand Xf.here hx rfl (hb hby at_141) rfl ?_
    show Steps p.tables e below (Tf.setTop (mkF m 142 #[.val (.long cc), .second, .val (.int rate), .val (.int days), .val (.int y), .val (.int pp), .val (.int ss), .val (.ref b), .val (.long (9223372036854775807 : Int64)), .second, .unset, .unset, .unset, .unset, .unset, .unset, .unset, .unset, .unset, .unset, .unset, .unset, .unset, .unset, .unset, .unset, .unset, .unset, .unset, .unset, .unset, .unset] [(.int (y &&& (2147483647 : Int32))), (.int (1 : Int32))])) _
    refine st90 _ ?_
    show Steps p.tables e below (T90.setTop (mkF m 145 #[.val (.long cc), .second, .val (.int rate), .val (.int days), .val (.int y), .val (.int pp), .val (.int ss), .val (.ref b), .val (.long (9223372036854775807 : Int64)), .second, .unset, .unset, .unset, .unset, .unset, .unset, .unset, .unset, .unset, .unset, .unset, .unset, .unset, .unset, .unset, .unset, .unset, .unset, .unset, .unset, .unset, .unset] [(.int (ydF y))])) _
    refine XS.istore X90.here hx rfl (hb hby at_145) rfl (l' := #[.val (.long cc), .second, .val (.int rate), .val (.int days), .val (.int y), .val (.int pp), .val (.int ss), .val (.ref b), .val (.long (9223372036854775807 : Int64)), .second, .val (.int (ydF y)), .unset, .unset, .unset, .unset, .unset, .unset, .unset, .unset, .unset, .unset, .unset, .unset, .unset, .unset, .unset, .unset, .unset, .unset, .unset, .unset, .unset]) rfl ?_
    refine XS.iload X90.here hx rfl (hb hby at_147) rfl ?_
    refine XS.bipush X90.here hx rfl (hb hby at_149) ?_
    refine gwIrem X90.here hx rfl (hb hby at_151) rfl (by decide : ¬ ((24 : Int32) = (0 : Int32))) ?_
    refine XS.istore X90.here hx rfl (hb hby at_152) rfl (l' := #[.val (.long cc), .second, .val (.int rate), .val (.int days), .val (.int y), .val (.int pp), .val (.int ss), .val (.ref b), .val (.long (9223372036854775807 : Int64)), .second, .val (.int (ydF y)), .val (.int (pp % (24 : Int32))), .unset, .unset, .unset, .unset, .unset, .unset, .unset, .unset, .unset, .unset, .unset, .unset, .unset, .unset, .unset, .unset, .unset, .unset, .unset, .unset]) rfl ?_
    refine XS.iload X90.here hx rfl (hb hby at_154) rfl ?_
    refine XS.bipush X90.here hx rfl (hb hby at_156) ?_
    refine gwIrem X90.here hx rfl (hb hby at_158) rfl (by decide : ¬ ((24 : Int32) = (0 : Int32))) ?_
    show Steps p.tables e below (T90.setTop (mkF m 159 #[.val (.long cc), .second, .val (.int rate), .val (.int days), .val (.int y), .val (.int pp), .val (.int ss), .val (.ref b), .val (.long (9223372036854775807 : Int64)), .second, .val (.int (ydF y)), .val (.int (pp % (24 : Int32))), .unset, .unset, .unset, .unset, .unset, .unset, .unset, .unset, .unset, .unset, .unset, .unset, .unset, .unset, .unset, .unset, .unset, .unset, .unset, .unset] [(.int (ss % (24 : Int32)))])) _
    refine XS.istore X90.here hx rfl (hb hby at_159) rfl (l' := #[.val (.long cc), .second, .val (.int rate), .val (.int days), .val (.int y), .val (.int pp), .val (.int ss), .val (.ref b), .val (.long (9223372036854775807 : Int64)), .second, .val (.int (ydF y)), .val (.int (pp % (24 : Int32))), .val (.int (ss % (24 : Int32))), .unset, .unset, .unset, .unset, .unset, .unset, .unset, .unset, .unset, .unset, .unset, .unset, .unset, .unset, .unset, .unset, .unset, .unset, .unset]) rfl ?_
    refine XS.iload X90.here hx rfl (hb hby at_161) rfl ?_
    refine XS.iconst X90.here hx rfl (hb hby at_163) ?_
    refine XS.isub X90.here hx rfl (hb hby at_164) rfl ?_
    refine XS.iload X90.here hx rfl (hb hby at_165) rfl ?_
    refine XS.isub X90.here hx rfl (hb hby at_167) rfl ?_
    show Steps p.tables e below (T90.setTop (mkF m 168 #[.val (.long cc), .second, .val (.int rate), .val (.int days), .val (.int y), .val (.int pp), .val (.int ss), .val (.ref b), .val (.long (9223372036854775807 : Int64)), .second, .val (.int (ydF y)), .val (.int (pp % (24 : Int32))), .val (.int (ss % (24 : Int32))), .unset, .unset, .unset, .unset, .unset, .unset, .unset, .unset, .unset, .unset, .unset, .unset, .unset, .unset, .unset, .unset, .unset, .unset, .unset] [(.int (tL pp ss))])) _
    refine XS.istore X90.here hx rfl (hb hby at_168) rfl (l' := #[.val (.long cc), .second, .val (.int rate), .val (.int days), .val (.int y), .val (.int pp), .val (.int ss), .val (.ref b), .val (.long (9223372036854775807 : Int64)), .second, .val (.int (ydF y)), .val (.int (pp % (24 : Int32))), .val (.int (ss % (24 : Int32))), .val (.int (tL pp ss)), .unset, .unset, .unset, .unset, .unset, .unset, .unset, .unset, .unset, .unset, .unset, .unset, .unset, .unset, .unset, .unset, .unset, .unset]) rfl ?_
    refine XS.iload X90.here hx rfl (hb hby at_170) rfl ?_
    refine XS.bipush X90.here hx rfl (hb hby at_172) ?_
    refine XS.icmpNo X90.here hx rfl (hb hby at_174) rfl (flt hc174).2.2.1 ?_
    refine XS.iload X90.here hx rfl (hb hby at_177) rfl ?_
    refine XS.bipush X90.here hx rfl (hb hby at_179) ?_
    refine XS.icmpYes X90.here hx rfl (pc0 := 181) (pc' := 211) rfl (hb hby at_181) rfl (flt hc181).2.1 (by decide) (by decide) ?_
    refine XS.iloadN X90.here hx rfl (hb hby at_211) rfl ?_
    show Steps p.tables e below (T90.setTop (mkF m 212 #[.val (.long cc), .second, .val (.int rate), .val (.int days), .val (.int y), .val (.int pp), .val (.int ss), .val (.ref b), .val (.long (9223372036854775807 : Int64)), .second, .val (.int (ydF y)), .val (.int (pp % (24 : Int32))), .val (.int (ss % (24 : Int32))), .val (.int (tL pp ss)), .unset, .unset, .unset, .unset, .unset, .unset, .unset, .unset, .unset, .unset, .unset, .unset, .unset, .unset, .unset, .unset, .unset, .unset] [(.int rate)])) _
    refine XS.i2l X90.here hx rfl (hb hby at_212) rfl ?_
    refine XS.iloadN X90.here hx rfl (hb hby at_213) rfl ?_
    refine XS.i2l X90.here hx rfl (hb hby at_214) rfl ?_
    refine XS.lmul X90.here hx rfl (hb hby at_215) rfl ?_
    show Steps p.tables e below (T90.setTop (mkF m 216 #[.val (.long cc), .second, .val (.int rate), .val (.int days), .val (.int y), .val (.int pp), .val (.int ss), .val (.ref b), .val (.long (9223372036854775807 : Int64)), .second, .val (.int (ydF y)), .val (.int (pp % (24 : Int32))), .val (.int (ss % (24 : Int32))), .val (.int (tL pp ss)), .unset, .unset, .unset, .unset, .unset, .unset, .unset, .unset, .unset, .unset, .unset, .unset, .unset, .unset, .unset, .unset, .unset, .unset] [(.long (rdF rate days))])) _
    refine XS.lstore X90.here hx rfl (hb hby at_216) rfl (l' := #[.val (.long cc), .second, .val (.int rate), .val (.int days), .val (.int y), .val (.int pp), .val (.int ss), .val (.ref b), .val (.long (9223372036854775807 : Int64)), .second, .val (.int (ydF y)), .val (.int (pp % (24 : Int32))), .val (.int (ss % (24 : Int32))), .val (.int (tL pp ss)), .val (.long (rdF rate days)), .second, .unset, .unset, .unset, .unset, .unset, .unset, .unset, .unset, .unset, .unset, .unset, .unset, .unset, .unset, .unset, .unset]) rfl ?_
    refine XS.iload X90.here hx rfl (hb hby at_218) rfl ?_
    refine XS.ifYes X90.here hx rfl (pc0 := 220) (pc' := 285) rfl (hb hby at_220) rfl ((if0 _ _).trans (flt hc220).2.2.2) (by decide) (by decide) ?_
    refine XS.iload X90.here hx rfl (hb hby at_285) rfl ?_
    refine XS.ineg X90.here hx rfl (hb hby at_287) rfl ?_
    refine XS.istore X90.here hx rfl (hb hby at_288) rfl (l' := #[.val (.long cc), .second, .val (.int rate), .val (.int days), .val (.int y), .val (.int pp), .val (.int ss), .val (.ref b), .val (.long (9223372036854775807 : Int64)), .second, .val (.int (ydF y)), .val (.int (pp % (24 : Int32))), .val (.int (ss % (24 : Int32))), .val (.int (tL pp ss)), .val (.long (rdF rate days)), .second, .unset, .unset, .unset, .unset, .val (.int (-(tL pp ss))), .unset, .unset, .unset, .unset, .unset, .unset, .unset, .unset, .unset, .unset, .unset]) rfl ?_
    refine XS.iload X90.here hx rfl (hb hby at_290) rfl ?_
    refine XS.i2l X90.here hx rfl (hb hby at_292) rfl ?_
    show Steps p.tables e below (T90.setTop (mkF m 293 #[.val (.long cc), .second, .val (.int rate), .val (.int days), .val (.int y), .val (.int pp), .val (.int ss), .val (.ref b), .val (.long (9223372036854775807 : Int64)), .second, .val (.int (ydF y)), .val (.int (pp % (24 : Int32))), .val (.int (ss % (24 : Int32))), .val (.int (tL pp ss)), .val (.long (rdF rate days)), .second, .unset, .unset, .unset, .unset, .val (.int (-(tL pp ss))), .unset, .unset, .unset, .unset, .unset, .unset, .unset, .unset, .unset, .unset, .unset] [(.long ((ydF y).toInt64))])) _
    refine XS.lload X90.here hx rfl (hb hby at_293) rfl ?_
    refine XS.aload X90.here hx rfl (hb hby at_295) rfl rfl ?_
    refine XS.iload X90.here hx rfl (hb hby at_297) rfl ?_
    show Steps p.tables e below (T90.setTop (mkF m 299 #[.val (.long cc), .second, .val (.int rate), .val (.int days), .val (.int y), .val (.int pp), .val (.int ss), .val (.ref b), .val (.long (9223372036854775807 : Int64)), .second, .val (.int (ydF y)), .val (.int (pp % (24 : Int32))), .val (.int (ss % (24 : Int32))), .val (.int (tL pp ss)), .val (.long (rdF rate days)), .second, .unset, .unset, .unset, .unset, .val (.int (-(tL pp ss))), .unset, .unset, .unset, .unset, .unset, .unset, .unset, .unset, .unset, .unset, .unset] [(.int (-(tL pp ss))), (.ref b), (.long (9223372036854775807 : Int64)), (.long ((ydF y).toInt64))])) _
    refine X90.laload hx (j := (-(tL pp ss))) (v := (.long (powF N))) (by rw [e90]; exact Ar.1) (State.isArrayOf_alike hZ.alike Ar.2.1) Ar.2.2 hin hat (g := (mkF m 299 #[.val (.long cc), .second, .val (.int rate), .val (.int days), .val (.int y), .val (.int pp), .val (.int ss), .val (.ref b), .val (.long (9223372036854775807 : Int64)), .second, .val (.int (ydF y)), .val (.int (pp % (24 : Int32))), .val (.int (ss % (24 : Int32))), .val (.int (tL pp ss)), .val (.long (rdF rate days)), .second, .unset, .unset, .unset, .unset, .val (.int (-(tL pp ss))), .unset, .unset, .unset, .unset, .unset, .unset, .unset, .unset, .unset, .unset, .unset] [(.int (-(tL pp ss))), (.ref b), (.long (9223372036854775807 : Int64)), (.long ((ydF y).toInt64))])) rfl rfl (hb hby at_299) _ ?_
    refine XS.ldiv X90.here hx rfl (hb hby at_300) rfl hnz300 ?_
    refine XS.lcmp X90.here hx rfl (hb hby at_301) rfl ?_
    refine XS.ifNo X90.here hx rfl (hb hby at_302) rfl ((if0 _ _).trans (tlt hc302).2.2.2) ?_
    refine XS.lloadN X90.here hx rfl (hb hby at_305) rfl ?_
    refine XS.iloadN X90.here hx rfl (hb hby at_306) rfl ?_
    refine XS.i2l X90.here hx rfl (hb hby at_307) rfl ?_
    refine XS.iload X90.here hx rfl (hb hby at_308) rfl ?_
    show Steps p.tables e below (T90.setTop (mkF m 310 #[.val (.long cc), .second, .val (.int rate), .val (.int days), .val (.int y), .val (.int pp), .val (.int ss), .val (.ref b), .val (.long (9223372036854775807 : Int64)), .second, .val (.int (ydF y)), .val (.int (pp % (24 : Int32))), .val (.int (ss % (24 : Int32))), .val (.int (tL pp ss)), .val (.long (rdF rate days)), .second, .unset, .unset, .unset, .unset, .val (.int (-(tL pp ss))), .unset, .unset, .unset, .unset, .unset, .unset, .unset, .unset, .unset, .unset, .unset] [(.int (ss % (24 : Int32))), (.long (rate.toInt64)), (.long cc)])) _
    refine XS.iloadN X90.here hx rfl (hb hby at_310) rfl ?_
    refine XS.i2l X90.here hx rfl (hb hby at_311) rfl ?_
    refine XS.iload X90.here hx rfl (hb hby at_312) rfl ?_
    refine XS.iload X90.here hx rfl (hb hby at_314) rfl ?_
    show Steps p.tables e below (T90.setTop (mkF m 316 #[.val (.long cc), .second, .val (.int rate), .val (.int days), .val (.int y), .val (.int pp), .val (.int ss), .val (.ref b), .val (.long (9223372036854775807 : Int64)), .second, .val (.int (ydF y)), .val (.int (pp % (24 : Int32))), .val (.int (ss % (24 : Int32))), .val (.int (tL pp ss)), .val (.long (rdF rate days)), .second, .unset, .unset, .unset, .unset, .val (.int (-(tL pp ss))), .unset, .unset, .unset, .unset, .unset, .unset, .unset, .unset, .unset, .unset, .unset] [(.int (pp % (24 : Int32))), (.int (ydF y)), (.long (days.toInt64)), (.int (ss % (24 : Int32))), (.long (rate.toInt64)), (.long cc)])) _
    refine st91 _ ?_
    refine X91.ldc2Long hx hown (mvT hZ (hw _ (List.mem_of_getElem? (i := 56) rfl))) (g := (mkF m 319 #[.val (.long cc), .second, .val (.int rate), .val (.int days), .val (.int y), .val (.int pp), .val (.int ss), .val (.ref b), .val (.long (9223372036854775807 : Int64)), .second, .val (.int (ydF y)), .val (.int (pp % (24 : Int32))), .val (.int (ss % (24 : Int32))), .val (.int (tL pp ss)), .val (.long (rdF rate days)), .second, .unset, .unset, .unset, .unset, .val (.int (-(tL pp ss))), .unset, .unset, .unset, .unset, .unset, .unset, .unset, .unset, .unset, .unset, .unset] [(.long (-9223372036854775808 : Int64))])) rfl (hb hby at_319) _ ?_
    refine XS.lcmp X91.here hx rfl (hb hby at_322) rfl ?_
    refine XS.ifNo X91.here hx rfl (hb hby at_323) rfl ((if0 _ _).trans (teq hc323).2) ?_
    refine XS.iconst X91.here hx rfl (hb hby at_326) ?_
    refine XS.goto X91.here hx rfl (pc0 := 327) (pc' := 331) rfl (hb hby at_327) (by decide) (by decide) ?_
    show Steps p.tables e below (T91.setTop (mkF m 331 #[.val (.long cc), .second, .val (.int rate), .val (.int days), .val (.int y), .val (.int pp), .val (.int ss), .val (.ref b), .val (.long (9223372036854775807 : Int64)), .second, .val (.int (ydF y)), .val (.int (pp % (24 : Int32))), .val (.int (ss % (24 : Int32))), .val (.int (tL pp ss)), .val (.long (rdF rate days)), .second, .unset, .unset, .unset, .unset, .val (.int (-(tL pp ss))), .unset, .unset, .unset, .unset, .unset, .unset, .unset, .unset, .unset, .unset, .unset] [(.int (1 : Int32))])) _
    exact retN X91 hx (t := .boolean) Bd.returns (by simp) (hb hby at_331) hr
  · show Q0  h0 n0 _ T91.heap _
    exact ⟨rfl, N91⟩
set_option maxRecDepth 65536 in
set_option maxHeartbeats 40000000 in
theorem rm0_Pz (l : Launch) (Z : State) (a0 : Array Value) (hw : ∀ d ∈ tables_1, d.before a0 Z = true) (ws : List Jvm.Cond) (cc : Int64) (rate : Int32) (days : Int32) (y : Int32) (pp : Int32) (ss : Int32) (N : Nat) (h0 : Heap) (n0 : Nat) (Z0 : n0 ≤ h0.size) (hj : (tL pp ss) = Int32.ofNat N) (hj1 : N < 19) (hc174 : ¬ ((18 : Int32) < (tL pp ss))) (hc181 : ¬ ((tL pp ss) < (-18 : Int32))) (hc220 : (0 : Int32) < (tL pp ss)) (hnz235 : ¬ ((powF N) = (0 : Int64))) (hc237 : ¬ ((0 : Int32) < (lcmpW (absL (rdF rate days)) ((9223372036854775807 : Int64) / (powF N))))) (hc351 : (lcmpW (perF rate.toInt64 days.toInt64 (powF N)) (0 : Int64)) = (0 : Int32)) (hnz381 : ¬ (((ydF y).toInt64) = (0 : Int64))) (hnz388 : ¬ (((ydF y).toInt64) = (0 : Int64))) (hc402 : (lcmpW (absL ((cc * (perF rate.toInt64 days.toInt64 (powF N))) % ((ydF y).toInt64))) (((ydF y).toInt64) - (absL ((cc * (perF rate.toInt64 days.toInt64 (powF N))) % ((ydF y).toInt64))))) < (0 : Int32)) (hN : absI (tA (pp % (24 : Int32)) (ss % (24 : Int32))) = Int32.ofNat N) (hN1 : N < 100) (fhc18 : ¬ ((18 : Int32) < (absI (tA (pp % (24 : Int32)) (ss % (24 : Int32)))))) (fhc37 : (0 : Int32) < (tA (pp % (24 : Int32)) (ss % (24 : Int32)))) (fhc50 : (0 : Int32) < (tA (pp % (24 : Int32)) (ss % (24 : Int32)))) (fhc67 : ¬ ((proF (rate.toInt64) (days.toInt64)) = (0 : Int32))) (fhc79 : ¬ ((proF ((rate.toInt64) * (days.toInt64)) (powF N)) = (0 : Int32))) (fhc90 : ¬ ((proF ((ydF y).toInt64) (1 : Int64)) = (0 : Int32))) (fhnz118 : ¬ ((divF (ydF y) (1 : Int64)) = (0 : Int64))) (fhnz125 : ¬ ((divF (ydF y) (1 : Int64)) = (0 : Int64))) (fhc134 : ¬ ((proF cc ((perF (rate.toInt64) (days.toInt64) (powF N)) / (divF (ydF y) (1 : Int64)))) = (0 : Int32))) (fhc143 : ¬ ((proF cc ((perF (rate.toInt64) (days.toInt64) (powF N)) % (divF (ydF y) (1 : Int64)))) = (0 : Int32))) (fhnz162 : ¬ ((divF (ydF y) (1 : Int64)) = (0 : Int64))) (fhnz171 : ¬ ((divF (ydF y) (1 : Int64)) = (0 : Int64))) (fhc185 : (lcmpW (remF cc ((perF (rate.toInt64) (days.toInt64) (powF N)) % (divF (ydF y) (1 : Int64))) (divF (ydF y) (1 : Int64))) ((divF (ydF y) (1 : Int64)) - (remF cc ((perF (rate.toInt64) (days.toInt64) (powF N)) % (divF (ydF y) (1 : Int64))) (divF (ydF y) (1 : Int64))))) < (0 : Int32)) (fhc212 : ¬ ((sumF (cc * ((perF (rate.toInt64) (days.toInt64) (powF N)) / (divF (ydF y) (1 : Int64)))) ((cc * ((perF (rate.toInt64) (days.toInt64) (powF N)) % (divF (ydF y) (1 : Int64)))) / (divF (ydF y) (1 : Int64)))) = (0 : Int32))) (fhc225 : ¬ ((sumF ((cc * ((perF (rate.toInt64) (days.toInt64) (powF N)) / (divF (ydF y) (1 : Int64)))) + ((cc * ((perF (rate.toInt64) (days.toInt64) (powF N)) % (divF (ydF y) (1 : Int64)))) / (divF (ydF y) (1 : Int64)))) (0 : Int64)) = (0 : Int32))) (hc450 : (lcmpW (sum3 (cc * ((perF (rate.toInt64) (days.toInt64) (powF N)) / (divF (ydF y) (1 : Int64)))) ((cc * ((perF (rate.toInt64) (days.toInt64) (powF N)) % (divF (ydF y) (1 : Int64)))) / (divF (ydF y) (1 : Int64))) (0 : Int64)) (((cc * (perF rate.toInt64 days.toInt64 (powF N))) / ((ydF y).toInt64)) + (0 : Int64))) = (0 : Int32)) :
    MetFree l x (head1 (Jvm.Cond.code x code maxLocals ret :: ws) room_1) (fun aa U => aa = #[(.long cc), (.int rate), (.int days), (.int y), (.int pp), (.int ss)] ∧ Z.Warmed39 U.vm ∧ U.heap = h0) (fun _ _ _ _ _ => True) (fun _ U o U' => ∃ v L, o = .returned v ∧ Q0  h0 n0 v U'.heap L ∧ FrameEnd U o U' L room_1.cells room_1.slots) := by
  refine MetFree.of_bodySF (plainFor_of_name pn_0) hisR ?_
  intro p e s m args below meth c s₁ Bd hml0 hP hK
  obtain ⟨rfl, hZ, hh⟩ := hP
  have hx := Bd.exec
  have hby := Bd.bytes
  have hml : c.maxLocals = 32 := hml0
  have hown : s.vm.findClass "com/example/syndicata/syndicata/AccrualAccruedUnitsPinLaw" = some m.cls := findClass_of_methodNamed Bd.named
  have hnm := (name_of_methodNamed Bd.named Bd.method).1
  have X0 : Stand p l e room_1 s m #[(.long cc), (.int rate), (.int days), (.int y), (.int pp), (.int ss)] below meth c s₁ [] 0 0 := Stand.of_body Bd
  have e0 : s₁.heap = h0 := by rw [← hh, Bd.state]; rfl
  have N0 := Fr.nil n0
  have pre0 : ∀ zz, Steps p.tables e below (s₁.setTop (mkF m 0 #[.val (.long cc), .second, .val (.int rate), .val (.int days), .val (.int y), .val (.int pp), .val (.int ss), .unset, .unset, .unset, .unset, .unset, .unset, .unset, .unset, .unset, .unset, .unset, .unset, .unset, .unset, .unset, .unset, .unset, .unset, .unset, .unset, .unset, .unset, .unset, .unset, .unset] [])) zz → Steps p.tables e below (s₁.setTop (entryFrame m #[(.long cc), (.int rate), (.int days), (.int y), (.int pp), (.int ss)] maxLocals)) zz := fun zz k => castTop (ef_0 m cc rate days y pp ss) k
  obtain ⟨Tf, hf1, b, kk, locs1, Xf, ef, Zf, Vf, Nf, stf⟩ := fill0 (n0 := n0) cc rate days y pp ss X0 hx hZ hw hby hown e0 Z0
  obtain ⟨cl, Ar, q_, S_, N_, H_, G_⟩ := Vf
  have hjc : ((tL pp ss)).toNatClampNeg = N := by rw [hj]; exact ofNat_clamp (by omega)
  have hsz : cl.slots.size = 19 := S_
  have hin : ¬ ((tL pp ss) < 0 ∨ cl.slots.size ≤ ((tL pp ss)).toNatClampNeg) := by rw [hjc, hsz]; exact fun q => q.elim (by rw [hj]; exact ofNat_nn (by omega)) (fun q => absurd q (by omega))
  have hat : cl.slots[((tL pp ss)).toNatClampNeg]? = some (.long (powF N)) := by rw [hjc, H_ N (by omega), tens_at N hj1]
  obtain ⟨_, _, ⟨T92, L92, k92, n92⟩, -, X92, ⟨Lc92, hQ92, l92, y92, z92⟩, st92⟩ := Jvm.LawKit.callS Xf hx (y := (⟨"java/lang/Math", "max", "(II)I"⟩ : MethodName)) hown (mvT hZ (hw _ (List.mem_of_getElem? (i := 21) rfl))) (mvT hZ (hw _ (List.mem_of_getElem? (i := 22) rfl))) (mvT hZ (hw _ (List.mem_of_getElem? (i := 23) rfl))) (mvT hZ (hw _ (List.mem_of_getElem? (i := 24) rfl))) (by decide) (backOf (W := 0) (rm1 l Z a0 hw [] (1 : Int32) (y &&& (2147483647 : Int32)) hf1 n0 Zf) hZ (hw _ (List.mem_of_getElem? (i := 24) rfl)) (hw _ (List.mem_of_getElem? (i := 23) rfl)) (by decide) (by decide)) (g := (mkF m 142 #[.val (.long cc), .second, .val (.int rate), .val (.int days), .val (.int y), .val (.int pp), .val (.int ss), .val (.ref b), .val (.long (9223372036854775807 : Int64)), .second, .unset, .unset, .unset, .unset, .unset, .unset, .unset, .unset, .unset, .unset, .unset, .unset, .unset, .unset, .unset, .unset, .unset, .unset, .unset, .unset, .unset, .unset] [(.int (y &&& (2147483647 : Int32))), (.int (1 : Int32))])) rfl (by rw [hml]; rfl) (argsL := [(.int (1 : Int32)), (.int (y &&& (2147483647 : Int32)))]) (rest := []) (lenOf pd_0 rfl) rfl (by show 2 * 0 + _ ≤ _; exact Nat.le_of_eq rfl) (hb hby at_142) (fun _ _ => ⟨rfl, ef, (by decide : 1 + 0 ≤ _), (by decide : 19 + 0 ≤ _)⟩)
  dsimp only [Pt.U, Pt.locs, Pt.cells, Pt.slots] at X92 l92 y92 z92 st92 hQ92
  subst l92 y92 z92
  obtain ⟨rfl, N92q, e92⟩ := hQ92
  have N92 := Fr.app Nf N92q
  obtain ⟨_, _, ⟨T93, L93, k93, n93⟩, -, X93, ⟨Lc93, hQ93, l93, y93, z93⟩, st93⟩ := Jvm.LawKit.callS X92 hx (y := (⟨"java/lang/Math", "abs", "(J)J"⟩ : MethodName)) hown (mvT hZ (hw _ (List.mem_of_getElem? (i := 25) rfl))) (mvT hZ (hw _ (List.mem_of_getElem? (i := 26) rfl))) (mvT hZ (hw _ (List.mem_of_getElem? (i := 23) rfl))) (mvT hZ (hw _ (List.mem_of_getElem? (i := 27) rfl))) (by decide) (backOf (W := 0) (rm2 l Z a0 hw [] (rdF rate days) hf1 n0 Zf) hZ (hw _ (List.mem_of_getElem? (i := 27) rfl)) (hw _ (List.mem_of_getElem? (i := 23) rfl)) (by decide) (by decide)) (g := (mkF m 225 #[.val (.long cc), .second, .val (.int rate), .val (.int days), .val (.int y), .val (.int pp), .val (.int ss), .val (.ref b), .val (.long (9223372036854775807 : Int64)), .second, .val (.int (ydF y)), .val (.int (pp % (24 : Int32))), .val (.int (ss % (24 : Int32))), .val (.int (tL pp ss)), .val (.long (rdF rate days)), .second, .unset, .unset, .unset, .unset, .unset, .unset, .unset, .unset, .unset, .unset, .unset, .unset, .unset, .unset, .unset, .unset] [(.long (rdF rate days))])) rfl (by rw [hml]; rfl) (argsL := [(.long (rdF rate days))]) (rest := []) (lenOf pd_1 rfl) rfl (by show 2 * 0 + _ ≤ _; exact Nat.le_of_eq rfl) (hb hby at_225) (fun _ _ => ⟨rfl, e92, (by decide : 1 + 0 ≤ _), (by decide : 19 + 0 ≤ _)⟩)
  dsimp only [Pt.U, Pt.locs, Pt.cells, Pt.slots] at X93 l93 y93 z93 st93 hQ93
  subst l93 y93 z93
  obtain ⟨rfl, N93q, e93⟩ := hQ93
  have N93 := Fr.app N92 N93q
  obtain ⟨_, _, ⟨T94, L94, k94, n94⟩, -, X94, ⟨Lc94, hQ94, l94, y94, z94⟩, st94⟩ := Jvm.LawKit.callS X93 hx (y := (⟨"java/lang/Math", "abs", "(J)J"⟩ : MethodName)) hown (mvT hZ (hw _ (List.mem_of_getElem? (i := 25) rfl))) (mvT hZ (hw _ (List.mem_of_getElem? (i := 26) rfl))) (mvT hZ (hw _ (List.mem_of_getElem? (i := 23) rfl))) (mvT hZ (hw _ (List.mem_of_getElem? (i := 27) rfl))) (by decide) (backOf (W := 0) (rm2 l Z a0 hw [] ((cc * (perF rate.toInt64 days.toInt64 (powF N))) % ((ydF y).toInt64)) hf1 n0 Zf) hZ (hw _ (List.mem_of_getElem? (i := 27) rfl)) (hw _ (List.mem_of_getElem? (i := 23) rfl)) (by decide) (by decide)) (g := (mkF m 389 #[.val (.long cc), .second, .val (.int rate), .val (.int days), .val (.int y), .val (.int pp), .val (.int ss), .val (.ref b), .val (.long (9223372036854775807 : Int64)), .second, .val (.int (ydF y)), .val (.int (pp % (24 : Int32))), .val (.int (ss % (24 : Int32))), .val (.int (tL pp ss)), .val (.long (rdF rate days)), .second, .val (.long (perF rate.toInt64 days.toInt64 (powF N))), .second, .val (.long ((ydF y).toInt64)), .second, .val (.long cc), .second, .val (.long (cc * (perF rate.toInt64 days.toInt64 (powF N)))), .second, .val (.long ((cc * (perF rate.toInt64 days.toInt64 (powF N))) / ((ydF y).toInt64))), .second, .unset, .unset, .unset, .unset, .unset, .unset] [(.long ((cc * (perF rate.toInt64 days.toInt64 (powF N))) % ((ydF y).toInt64)))])) rfl (by rw [hml]; rfl) (argsL := [(.long ((cc * (perF rate.toInt64 days.toInt64 (powF N))) % ((ydF y).toInt64)))]) (rest := []) (lenOf pd_1 rfl) rfl (by show 2 * 0 + _ ≤ _; exact Nat.le_of_eq rfl) (hb hby at_389) (fun _ _ => ⟨rfl, e93, (by decide : 1 + 0 ≤ _), (by decide : 19 + 0 ≤ _)⟩)
  dsimp only [Pt.U, Pt.locs, Pt.cells, Pt.slots] at X94 l94 y94 z94 st94 hQ94
  subst l94 y94 z94
  obtain ⟨rfl, N94q, e94⟩ := hQ94
  have N94 := Fr.app N93 N94q
  obtain ⟨_, _, ⟨T95, L95, k95, n95⟩, -, X95, ⟨Lc95, hQ95, l95, y95, z95⟩, st95⟩ := Jvm.LawKit.callS X94 hx (y := (⟨"com/example/syndicata/syndicata/Accrual", "accruedUnits", "(JJIJII)J"⟩ : MethodName)) hown (mvT hZ (hw _ (List.mem_of_getElem? (i := 28) rfl))) (mvT hZ (hw _ (List.mem_of_getElem? (i := 29) rfl))) (mvT hZ (hw _ (List.mem_of_getElem? (i := 30) rfl))) (mvT hZ (hw _ (List.mem_of_getElem? (i := 31) rfl))) (by decide) (backOf (W := 0) (rm3_P0 l Z a0 hw [] cc (rate.toInt64) (ss % (24 : Int32)) (days.toInt64) (ydF y) (pp % (24 : Int32)) N hf1 n0 Zf hN hN1 fhc18 fhc37 fhc50 fhc67 fhc79 fhc90 fhnz118 fhnz125 fhc134 fhc143 fhnz162 fhnz171 fhc185 fhc212 fhc225) hZ (hw _ (List.mem_of_getElem? (i := 31) rfl)) (hw _ (List.mem_of_getElem? (i := 30) rfl)) (by decide) (by decide)) (g := (mkF m 444 #[.val (.long cc), .second, .val (.int rate), .val (.int days), .val (.int y), .val (.int pp), .val (.int ss), .val (.ref b), .val (.long (9223372036854775807 : Int64)), .second, .val (.int (ydF y)), .val (.int (pp % (24 : Int32))), .val (.int (ss % (24 : Int32))), .val (.int (tL pp ss)), .val (.long (rdF rate days)), .second, .val (.long (perF rate.toInt64 days.toInt64 (powF N))), .second, .val (.long ((ydF y).toInt64)), .second, .val (.long cc), .second, .val (.long (cc * (perF rate.toInt64 days.toInt64 (powF N)))), .second, .val (.long ((cc * (perF rate.toInt64 days.toInt64 (powF N))) / ((ydF y).toInt64))), .second, .val (.long (absL ((cc * (perF rate.toInt64 days.toInt64 (powF N))) % ((ydF y).toInt64)))), .second, .val (.long (0 : Int64)), .second, .val (.long (((cc * (perF rate.toInt64 days.toInt64 (powF N))) / ((ydF y).toInt64)) + (0 : Int64))), .second] [(.int (pp % (24 : Int32))), (.int (ydF y)), (.long (days.toInt64)), (.int (ss % (24 : Int32))), (.long (rate.toInt64)), (.long cc)])) rfl (by rw [hml]; rfl) (argsL := [(.long cc), (.long (rate.toInt64)), (.int (ss % (24 : Int32))), (.long (days.toInt64)), (.int (ydF y)), (.int (pp % (24 : Int32)))]) (rest := []) (lenOf pd_2 rfl) rfl (by show 2 * 0 + _ ≤ _; exact Nat.le_of_eq rfl) (hb hby at_444) (fun _ _ => ⟨rfl, e94, (by decide : 1 + 0 ≤ _), (by decide : 19 + 0 ≤ _)⟩)
  dsimp only [Pt.U, Pt.locs, Pt.cells, Pt.slots] at X95 l95 y95 z95 st95 hQ95
  subst l95 y95 z95
  obtain ⟨rfl, N95q, e95⟩ := hQ95
  have N95 := Fr.app N94 N95q
  obtain ⟨fs, hr, hrun, hended, hW, hsame⟩ := X95.leave (v := some (.int (1 : Int32))) (fun h => by rw [Bd.returns] at h; cases h)
  refine ⟨_, _, pre0 _ ?_, hrun, hended, _, _, rfl, ?_, ⟨_, rfl⟩, hW, hsame.mono (by decide) (by decide)⟩
  · show Steps p.tables e below (s₁.setTop (mkF m 0 #[.val (.long cc), .second, .val (.int rate), .val (.int days), .val (.int y), .val (.int pp), .val (.int ss), .unset, .unset, .unset, .unset, .unset, .unset, .unset, .unset, .unset, .unset, .unset, .unset, .unset, .unset, .unset, .unset, .unset, .unset, .unset, .unset, .unset, .unset, .unset, .unset, .unset] [])) _
    refine stf _ ?_
    show Steps p.tables e below (Tf.setTop (mkF m 131 #[.val (.long cc), .second, .val (.int rate), .val (.int days), .val (.int y), .val (.int pp), .val (.int ss), .val (.ref b), .unset, .unset, .unset, .unset, .unset, .unset, .unset, .unset, .unset, .unset, .unset, .unset, .unset, .unset, .unset, .unset, .unset, .unset, .unset, .unset, .unset, .unset, .unset, .unset] [])) _
    refine Xf.ldc2Long hx hown (mvT hZ (hw _ (List.mem_of_getElem? (i := 19) rfl))) (g := (mkF m 131 #[.val (.long cc), .second, .val (.int rate), .val (.int days), .val (.int y), .val (.int pp), .val (.int ss), .val (.ref b), .unset, .unset, .unset, .unset, .unset, .unset, .unset, .unset, .unset, .unset, .unset, .unset, .unset, .unset, .unset, .unset, .unset, .unset, .unset, .unset, .unset, .unset, .unset, .unset] [])) rfl (hb hby at_131) _ ?_
    refine XS.lstore Xf.here hx rfl (hb hby at_134) rfl (l' := #[.val (.long cc), .second, .val (.int rate), .val (.int days), .val (.int y), .val (.int pp), .val (.int ss), .val (.ref b), .val (.long (9223372036854775807 : Int64)), .second, .unset, .unset, .unset, .unset, .unset, .unset, .unset, .unset, .unset, .unset, .unset, .unset, .unset, .unset, .unset, .unset, .unset, .unset, .unset, .unset, .unset, .unset]) rfl ?_
    refine XS.iconst Xf.here hx rfl (hb hby at_136) ?_
    refine XS.iload Xf.here hx rfl (hb hby at_137) rfl ?_
    refine Xf.ldcInt hx hown (mvT hZ (hw _ (List.mem_of_getElem? (i := 20) rfl))) (g := (mkF m 139 #[.val (.long cc), .second, .val (.int rate), .val (.int days), .val (.int y), .val (.int pp), .val (.int ss), .val (.ref b), .val (.long (9223372036854775807 : Int64)), .second, .unset, .unset, .unset, .unset, .unset, .unset, .unset, .unset, .unset, .unset, .unset, .unset, .unset, .unset, .unset, .unset, .unset, .unset, .unset, .unset, .unset, .unset] [(.int y), (.int (1 : Int32))])) rfl (hb hby at_139) _ ?_
    refine XS.iand Xf.here hx rfl (hb hby at_141) rfl ?_
    show Steps p.tables e below (Tf.setTop (mkF m 142 #[.val (.long cc), .second, .val (.int rate), .val (.int days), .val (.int y), .val (.int pp), .val (.int ss), .val (.ref b), .val (.long (9223372036854775807 : Int64)), .second, .unset, .unset, .unset, .unset, .unset, .unset, .unset, .unset, .unset, .unset, .unset, .unset, .unset, .unset, .unset, .unset, .unset, .unset, .unset, .unset, .unset, .unset] [(.int (y &&& (2147483647 : Int32))), (.int (1 : Int32))])) _
    refine st92 _ ?_
    show Steps p.tables e below (T92.setTop (mkF m 145 #[.val (.long cc), .second, .val (.int rate), .val (.int days), .val (.int y), .val (.int pp), .val (.int ss), .val (.ref b), .val (.long (9223372036854775807 : Int64)), .second, .unset, .unset, .unset, .unset, .unset, .unset, .unset, .unset, .unset, .unset, .unset, .unset, .unset, .unset, .unset, .unset, .unset, .unset, .unset, .unset, .unset, .unset] [(.int (ydF y))])) _
    refine XS.istore X92.here hx rfl (hb hby at_145) rfl (l' := #[.val (.long cc), .second, .val (.int rate), .val (.int days), .val (.int y), .val (.int pp), .val (.int ss), .val (.ref b), .val (.long (9223372036854775807 : Int64)), .second, .val (.int (ydF y)), .unset, .unset, .unset, .unset, .unset, .unset, .unset, .unset, .unset, .unset, .unset, .unset, .unset, .unset, .unset, .unset, .unset, .unset, .unset, .unset, .unset]) rfl ?_
    refine XS.iload X92.here hx rfl (hb hby at_147) rfl ?_
    refine XS.bipush X92.here hx rfl (hb hby at_149) ?_
    refine gwIrem X92.here hx rfl (hb hby at_151) rfl (by decide : ¬ ((24 : Int32) = (0 : Int32))) ?_
    refine XS.istore X92.here hx rfl (hb hby at_152) rfl (l' := #[.val (.long cc), .second, .val (.int rate), .val (.int days), .val (.int y), .val (.int pp), .val (.int ss), .val (.ref b), .val (.long (9223372036854775807 : Int64)), .second, .val (.int (ydF y)), .val (.int (pp % (24 : Int32))), .unset, .unset, .unset, .unset, .unset, .unset, .unset, .unset, .unset, .unset, .unset, .unset, .unset, .unset, .unset, .unset, .unset, .unset, .unset, .unset]) rfl ?_
    refine XS.iload X92.here hx rfl (hb hby at_154) rfl ?_
    refine XS.bipush X92.here hx rfl (hb hby at_156) ?_
    refine gwIrem X92.here hx rfl (hb hby at_158) rfl (by decide : ¬ ((24 : Int32) = (0 : Int32))) ?_
    show Steps p.tables e below (T92.setTop (mkF m 159 #[.val (.long cc), .second, .val (.int rate), .val (.int days), .val (.int y), .val (.int pp), .val (.int ss), .val (.ref b), .val (.long (9223372036854775807 : Int64)), .second, .val (.int (ydF y)), .val (.int (pp % (24 : Int32))), .unset, .unset, .unset, .unset, .unset, .unset, .unset, .unset, .unset, .unset, .unset, .unset, .unset, .unset, .unset, .unset, .unset, .unset, .unset, .unset] [(.int (ss % (24 : Int32)))])) _
    refine XS.istore X92.here hx rfl (hb hby at_159) rfl (l' := #[.val (.long cc), .second, .val (.int rate), .val (.int days), .val (.int y), .val (.int pp), .val (.int ss), .val (.ref b), .val (.long (9223372036854775807 : Int64)), .second, .val (.int (ydF y)), .val (.int (pp % (24 : Int32))), .val (.int (ss % (24 : Int32))), .unset, .unset, .unset, .unset, .unset, .unset, .unset, .unset, .unset, .unset, .unset, .unset, .unset, .unset, .unset, .unset, .unset, .unset, .unset]) rfl ?_
    refine XS.iload X92.here hx rfl (hb hby at_161) rfl ?_
    refine XS.iconst X92.here hx rfl (hb hby at_163) ?_
    refine XS.isub X92.here hx rfl (hb hby at_164) rfl ?_
    refine XS.iload X92.here hx rfl (hb hby at_165) rfl ?_
    refine XS.isub X92.here hx rfl (hb hby at_167) rfl ?_
    show Steps p.tables e below (T92.setTop (mkF m 168 #[.val (.long cc), .second, .val (.int rate), .val (.int days), .val (.int y), .val (.int pp), .val (.int ss), .val (.ref b), .val (.long (9223372036854775807 : Int64)), .second, .val (.int (ydF y)), .val (.int (pp % (24 : Int32))), .val (.int (ss % (24 : Int32))), .unset, .unset, .unset, .unset, .unset, .unset, .unset, .unset, .unset, .unset, .unset, .unset, .unset, .unset, .unset, .unset, .unset, .unset, .unset] [(.int (tL pp ss))])) _
    refine XS.istore X92.here hx rfl (hb hby at_168) rfl (l' := #[.val (.long cc), .second, .val (.int rate), .val (.int days), .val (.int y), .val (.int pp), .val (.int ss), .val (.ref b), .val (.long (9223372036854775807 : Int64)), .second, .val (.int (ydF y)), .val (.int (pp % (24 : Int32))), .val (.int (ss % (24 : Int32))), .val (.int (tL pp ss)), .unset, .unset, .unset, .unset, .unset, .unset, .unset, .unset, .unset, .unset, .unset, .unset, .unset, .unset, .unset, .unset, .unset, .unset]) rfl ?_
    refine XS.iload X92.here hx rfl (hb hby at_170) rfl ?_
    refine XS.bipush X92.here hx rfl (hb hby at_172) ?_
    refine XS.icmpNo X92.here hx rfl (hb hby at_174) rfl (flt hc174).2.2.1 ?_
    refine XS.iload X92.here hx rfl (hb hby at_177) rfl ?_
    refine XS.bipush X92.here hx rfl (hb hby at_179) ?_
    refine XS.icmpYes X92.here hx rfl (pc0 := 181) (pc' := 211) rfl (hb hby at_181) rfl (flt hc181).2.1 (by decide) (by decide) ?_
    refine XS.iloadN X92.here hx rfl (hb hby at_211) rfl ?_
    show Steps p.tables e below (T92.setTop (mkF m 212 #[.val (.long cc), .second, .val (.int rate), .val (.int days), .val (.int y), .val (.int pp), .val (.int ss), .val (.ref b), .val (.long (9223372036854775807 : Int64)), .second, .val (.int (ydF y)), .val (.int (pp % (24 : Int32))), .val (.int (ss % (24 : Int32))), .val (.int (tL pp ss)), .unset, .unset, .unset, .unset, .unset, .unset, .unset, .unset, .unset, .unset, .unset, .unset, .unset, .unset, .unset, .unset, .unset, .unset] [(.int rate)])) _
    refine XS.i2l X92.here hx rfl (hb hby at_212) rfl ?_
    refine XS.iloadN X92.here hx rfl (hb hby at_213) rfl ?_
    refine XS.i2l X92.here hx rfl (hb hby at_214) rfl ?_
    refine XS.lmul X92.here hx rfl (hb hby at_215) rfl ?_
    show Steps p.tables e below (T92.setTop (mkF m 216 #[.val (.long cc), .second, .val (.int rate), .val (.int days), .val (.int y), .val (.int pp), .val (.int ss), .val (.ref b), .val (.long (9223372036854775807 : Int64)), .second, .val (.int (ydF y)), .val (.int (pp % (24 : Int32))), .val (.int (ss % (24 : Int32))), .val (.int (tL pp ss)), .unset, .unset, .unset, .unset, .unset, .unset, .unset, .unset, .unset, .unset, .unset, .unset, .unset, .unset, .unset, .unset, .unset, .unset] [(.long (rdF rate days))])) _
    refine XS.lstore X92.here hx rfl (hb hby at_216) rfl (l' := #[.val (.long cc), .second, .val (.int rate), .val (.int days), .val (.int y), .val (.int pp), .val (.int ss), .val (.ref b), .val (.long (9223372036854775807 : Int64)), .second, .val (.int (ydF y)), .val (.int (pp % (24 : Int32))), .val (.int (ss % (24 : Int32))), .val (.int (tL pp ss)), .val (.long (rdF rate days)), .second, .unset, .unset, .unset, .unset, .unset, .unset, .unset, .unset, .unset, .unset, .unset, .unset, .unset, .unset, .unset, .unset]) rfl ?_
    refine XS.iload X92.here hx rfl (hb hby at_218) rfl ?_
    refine XS.ifNo X92.here hx rfl (hb hby at_220) rfl ((if0 _ _).trans (tlt hc220).2.2.2) ?_
    refine XS.lload X92.here hx rfl (hb hby at_223) rfl ?_
    show Steps p.tables e below (T92.setTop (mkF m 225 #[.val (.long cc), .second, .val (.int rate), .val (.int days), .val (.int y), .val (.int pp), .val (.int ss), .val (.ref b), .val (.long (9223372036854775807 : Int64)), .second, .val (.int (ydF y)), .val (.int (pp % (24 : Int32))), .val (.int (ss % (24 : Int32))), .val (.int (tL pp ss)), .val (.long (rdF rate days)), .second, .unset, .unset, .unset, .unset, .unset, .unset, .unset, .unset, .unset, .unset, .unset, .unset, .unset, .unset, .unset, .unset] [(.long (rdF rate days))])) _
    refine st93 _ ?_
    refine XS.lload X93.here hx rfl (hb hby at_228) rfl ?_
    refine XS.aload X93.here hx rfl (hb hby at_230) rfl rfl ?_
    refine XS.iload X93.here hx rfl (hb hby at_232) rfl ?_
    show Steps p.tables e below (T93.setTop (mkF m 234 #[.val (.long cc), .second, .val (.int rate), .val (.int days), .val (.int y), .val (.int pp), .val (.int ss), .val (.ref b), .val (.long (9223372036854775807 : Int64)), .second, .val (.int (ydF y)), .val (.int (pp % (24 : Int32))), .val (.int (ss % (24 : Int32))), .val (.int (tL pp ss)), .val (.long (rdF rate days)), .second, .unset, .unset, .unset, .unset, .unset, .unset, .unset, .unset, .unset, .unset, .unset, .unset, .unset, .unset, .unset, .unset] [(.int (tL pp ss)), (.ref b), (.long (9223372036854775807 : Int64)), (.long (absL (rdF rate days)))])) _
    refine X93.laload hx (j := (tL pp ss)) (v := (.long (powF N))) (by rw [e93]; exact Ar.1) (State.isArrayOf_alike hZ.alike Ar.2.1) Ar.2.2 hin hat (g := (mkF m 234 #[.val (.long cc), .second, .val (.int rate), .val (.int days), .val (.int y), .val (.int pp), .val (.int ss), .val (.ref b), .val (.long (9223372036854775807 : Int64)), .second, .val (.int (ydF y)), .val (.int (pp % (24 : Int32))), .val (.int (ss % (24 : Int32))), .val (.int (tL pp ss)), .val (.long (rdF rate days)), .second, .unset, .unset, .unset, .unset, .unset, .unset, .unset, .unset, .unset, .unset, .unset, .unset, .unset, .unset, .unset, .unset] [(.int (tL pp ss)), (.ref b), (.long (9223372036854775807 : Int64)), (.long (absL (rdF rate days)))])) rfl rfl (hb hby at_234) _ ?_
    refine XS.ldiv X93.here hx rfl (hb hby at_235) rfl hnz235 ?_
    refine XS.lcmp X93.here hx rfl (hb hby at_236) rfl ?_
    refine XS.ifYes X93.here hx rfl (pc0 := 237) (pc' := 267) rfl (hb hby at_237) rfl ((if0 _ _).trans (flt hc237).2.2.2) (by decide) (by decide) ?_
    refine XS.lload X93.here hx rfl (hb hby at_267) rfl ?_
    refine XS.aload X93.here hx rfl (hb hby at_269) rfl rfl ?_
    refine XS.iload X93.here hx rfl (hb hby at_271) rfl ?_
    show Steps p.tables e below (T93.setTop (mkF m 273 #[.val (.long cc), .second, .val (.int rate), .val (.int days), .val (.int y), .val (.int pp), .val (.int ss), .val (.ref b), .val (.long (9223372036854775807 : Int64)), .second, .val (.int (ydF y)), .val (.int (pp % (24 : Int32))), .val (.int (ss % (24 : Int32))), .val (.int (tL pp ss)), .val (.long (rdF rate days)), .second, .unset, .unset, .unset, .unset, .unset, .unset, .unset, .unset, .unset, .unset, .unset, .unset, .unset, .unset, .unset, .unset] [(.int (tL pp ss)), (.ref b), (.long (rdF rate days))])) _
    refine X93.laload hx (j := (tL pp ss)) (v := (.long (powF N))) (by rw [e93]; exact Ar.1) (State.isArrayOf_alike hZ.alike Ar.2.1) Ar.2.2 hin hat (g := (mkF m 273 #[.val (.long cc), .second, .val (.int rate), .val (.int days), .val (.int y), .val (.int pp), .val (.int ss), .val (.ref b), .val (.long (9223372036854775807 : Int64)), .second, .val (.int (ydF y)), .val (.int (pp % (24 : Int32))), .val (.int (ss % (24 : Int32))), .val (.int (tL pp ss)), .val (.long (rdF rate days)), .second, .unset, .unset, .unset, .unset, .unset, .unset, .unset, .unset, .unset, .unset, .unset, .unset, .unset, .unset, .unset, .unset] [(.int (tL pp ss)), (.ref b), (.long (rdF rate days))])) rfl rfl (hb hby at_273) _ ?_
    refine XS.lmul X93.here hx rfl (hb hby at_274) rfl ?_
    show Steps p.tables e below (T93.setTop (mkF m 275 #[.val (.long cc), .second, .val (.int rate), .val (.int days), .val (.int y), .val (.int pp), .val (.int ss), .val (.ref b), .val (.long (9223372036854775807 : Int64)), .second, .val (.int (ydF y)), .val (.int (pp % (24 : Int32))), .val (.int (ss % (24 : Int32))), .val (.int (tL pp ss)), .val (.long (rdF rate days)), .second, .unset, .unset, .unset, .unset, .unset, .unset, .unset, .unset, .unset, .unset, .unset, .unset, .unset, .unset, .unset, .unset] [(.long (perF rate.toInt64 days.toInt64 (powF N)))])) _
    refine XS.lstore X93.here hx rfl (hb hby at_275) rfl (l' := #[.val (.long cc), .second, .val (.int rate), .val (.int days), .val (.int y), .val (.int pp), .val (.int ss), .val (.ref b), .val (.long (9223372036854775807 : Int64)), .second, .val (.int (ydF y)), .val (.int (pp % (24 : Int32))), .val (.int (ss % (24 : Int32))), .val (.int (tL pp ss)), .val (.long (rdF rate days)), .second, .val (.long (perF rate.toInt64 days.toInt64 (powF N))), .second, .unset, .unset, .unset, .unset, .unset, .unset, .unset, .unset, .unset, .unset, .unset, .unset, .unset, .unset]) rfl ?_
    refine XS.iload X93.here hx rfl (hb hby at_277) rfl ?_
    refine XS.i2l X93.here hx rfl (hb hby at_279) rfl ?_
    refine XS.lstore X93.here hx rfl (hb hby at_280) rfl (l' := #[.val (.long cc), .second, .val (.int rate), .val (.int days), .val (.int y), .val (.int pp), .val (.int ss), .val (.ref b), .val (.long (9223372036854775807 : Int64)), .second, .val (.int (ydF y)), .val (.int (pp % (24 : Int32))), .val (.int (ss % (24 : Int32))), .val (.int (tL pp ss)), .val (.long (rdF rate days)), .second, .val (.long (perF rate.toInt64 days.toInt64 (powF N))), .second, .val (.long ((ydF y).toInt64)), .second, .unset, .unset, .unset, .unset, .unset, .unset, .unset, .unset, .unset, .unset, .unset, .unset]) rfl ?_
    refine XS.goto X93.here hx rfl (pc0 := 282) (pc' := 347) rfl (hb hby at_282) (by decide) (by decide) ?_
    refine XS.lload X93.here hx rfl (hb hby at_347) rfl ?_
    refine XS.lconst X93.here hx rfl (hb hby at_349) ?_
    refine XS.lcmp X93.here hx rfl (hb hby at_350) rfl ?_
    show Steps p.tables e below (T93.setTop (mkF m 351 #[.val (.long cc), .second, .val (.int rate), .val (.int days), .val (.int y), .val (.int pp), .val (.int ss), .val (.ref b), .val (.long (9223372036854775807 : Int64)), .second, .val (.int (ydF y)), .val (.int (pp % (24 : Int32))), .val (.int (ss % (24 : Int32))), .val (.int (tL pp ss)), .val (.long (rdF rate days)), .second, .val (.long (perF rate.toInt64 days.toInt64 (powF N))), .second, .val (.long ((ydF y).toInt64)), .second, .unset, .unset, .unset, .unset, .unset, .unset, .unset, .unset, .unset, .unset, .unset, .unset] [(.int (lcmpW (perF rate.toInt64 days.toInt64 (powF N)) (0 : Int64)))])) _
    refine XS.ifNo X93.here hx rfl (hb hby at_351) rfl ((if0 _ _).trans (teq hc351).2) ?_
    refine XS.lloadN X93.here hx rfl (hb hby at_354) rfl ?_
    refine XS.goto X93.here hx rfl (pc0 := 355) (pc' := 368) rfl (hb hby at_355) (by decide) (by decide) ?_
    refine XS.lstore X93.here hx rfl (hb hby at_368) rfl (l' := #[.val (.long cc), .second, .val (.int rate), .val (.int days), .val (.int y), .val (.int pp), .val (.int ss), .val (.ref b), .val (.long (9223372036854775807 : Int64)), .second, .val (.int (ydF y)), .val (.int (pp % (24 : Int32))), .val (.int (ss % (24 : Int32))), .val (.int (tL pp ss)), .val (.long (rdF rate days)), .second, .val (.long (perF rate.toInt64 days.toInt64 (powF N))), .second, .val (.long ((ydF y).toInt64)), .second, .val (.long cc), .second, .unset, .unset, .unset, .unset, .unset, .unset, .unset, .unset, .unset, .unset]) rfl ?_
    refine XS.lload X93.here hx rfl (hb hby at_370) rfl ?_
    refine XS.lload X93.here hx rfl (hb hby at_372) rfl ?_
    refine XS.lmul X93.here hx rfl (hb hby at_374) rfl ?_
    refine XS.lstore X93.here hx rfl (hb hby at_375) rfl (l' := #[.val (.long cc), .second, .val (.int rate), .val (.int days), .val (.int y), .val (.int pp), .val (.int ss), .val (.ref b), .val (.long (9223372036854775807 : Int64)), .second, .val (.int (ydF y)), .val (.int (pp % (24 : Int32))), .val (.int (ss % (24 : Int32))), .val (.int (tL pp ss)), .val (.long (rdF rate days)), .second, .val (.long (perF rate.toInt64 days.toInt64 (powF N))), .second, .val (.long ((ydF y).toInt64)), .second, .val (.long cc), .second, .val (.long (cc * (perF rate.toInt64 days.toInt64 (powF N)))), .second, .unset, .unset, .unset, .unset, .unset, .unset, .unset, .unset]) rfl ?_
    show Steps p.tables e below (T93.setTop (mkF m 377 #[.val (.long cc), .second, .val (.int rate), .val (.int days), .val (.int y), .val (.int pp), .val (.int ss), .val (.ref b), .val (.long (9223372036854775807 : Int64)), .second, .val (.int (ydF y)), .val (.int (pp % (24 : Int32))), .val (.int (ss % (24 : Int32))), .val (.int (tL pp ss)), .val (.long (rdF rate days)), .second, .val (.long (perF rate.toInt64 days.toInt64 (powF N))), .second, .val (.long ((ydF y).toInt64)), .second, .val (.long cc), .second, .val (.long (cc * (perF rate.toInt64 days.toInt64 (powF N)))), .second, .unset, .unset, .unset, .unset, .unset, .unset, .unset, .unset] [])) _
    refine XS.lload X93.here hx rfl (hb hby at_377) rfl ?_
    refine XS.lload X93.here hx rfl (hb hby at_379) rfl ?_
    refine XS.ldiv X93.here hx rfl (hb hby at_381) rfl hnz381 ?_
    refine XS.lstore X93.here hx rfl (hb hby at_382) rfl (l' := #[.val (.long cc), .second, .val (.int rate), .val (.int days), .val (.int y), .val (.int pp), .val (.int ss), .val (.ref b), .val (.long (9223372036854775807 : Int64)), .second, .val (.int (ydF y)), .val (.int (pp % (24 : Int32))), .val (.int (ss % (24 : Int32))), .val (.int (tL pp ss)), .val (.long (rdF rate days)), .second, .val (.long (perF rate.toInt64 days.toInt64 (powF N))), .second, .val (.long ((ydF y).toInt64)), .second, .val (.long cc), .second, .val (.long (cc * (perF rate.toInt64 days.toInt64 (powF N)))), .second, .val (.long ((cc * (perF rate.toInt64 days.toInt64 (powF N))) / ((ydF y).toInt64))), .second, .unset, .unset, .unset, .unset, .unset, .unset]) rfl ?_
    refine XS.lload X93.here hx rfl (hb hby at_384) rfl ?_
    refine XS.lload X93.here hx rfl (hb hby at_386) rfl ?_
    refine gwLrem X93.here hx rfl (hb hby at_388) rfl hnz388 ?_
    show Steps p.tables e below (T93.setTop (mkF m 389 #[.val (.long cc), .second, .val (.int rate), .val (.int days), .val (.int y), .val (.int pp), .val (.int ss), .val (.ref b), .val (.long (9223372036854775807 : Int64)), .second, .val (.int (ydF y)), .val (.int (pp % (24 : Int32))), .val (.int (ss % (24 : Int32))), .val (.int (tL pp ss)), .val (.long (rdF rate days)), .second, .val (.long (perF rate.toInt64 days.toInt64 (powF N))), .second, .val (.long ((ydF y).toInt64)), .second, .val (.long cc), .second, .val (.long (cc * (perF rate.toInt64 days.toInt64 (powF N)))), .second, .val (.long ((cc * (perF rate.toInt64 days.toInt64 (powF N))) / ((ydF y).toInt64))), .second, .unset, .unset, .unset, .unset, .unset, .unset] [(.long ((cc * (perF rate.toInt64 days.toInt64 (powF N))) % ((ydF y).toInt64)))])) _
    refine st94 _ ?_
    refine XS.lstore X94.here hx rfl (hb hby at_392) rfl (l' := #[.val (.long cc), .second, .val (.int rate), .val (.int days), .val (.int y), .val (.int pp), .val (.int ss), .val (.ref b), .val (.long (9223372036854775807 : Int64)), .second, .val (.int (ydF y)), .val (.int (pp % (24 : Int32))), .val (.int (ss % (24 : Int32))), .val (.int (tL pp ss)), .val (.long (rdF rate days)), .second, .val (.long (perF rate.toInt64 days.toInt64 (powF N))), .second, .val (.long ((ydF y).toInt64)), .second, .val (.long cc), .second, .val (.long (cc * (perF rate.toInt64 days.toInt64 (powF N)))), .second, .val (.long ((cc * (perF rate.toInt64 days.toInt64 (powF N))) / ((ydF y).toInt64))), .second, .val (.long (absL ((cc * (perF rate.toInt64 days.toInt64 (powF N))) % ((ydF y).toInt64)))), .second, .unset, .unset, .unset, .unset]) rfl ?_
    refine XS.lload X94.here hx rfl (hb hby at_394) rfl ?_
    refine XS.lload X94.here hx rfl (hb hby at_396) rfl ?_
    refine XS.lload X94.here hx rfl (hb hby at_398) rfl ?_
    refine XS.lsub X94.here hx rfl (hb hby at_400) rfl ?_
    refine XS.lcmp X94.here hx rfl (hb hby at_401) rfl ?_
    refine XS.ifYes X94.here hx rfl (pc0 := 402) (pc' := 422) rfl (hb hby at_402) rfl ((if0 _ _).trans (tlt hc402).1) (by decide) (by decide) ?_
    show Steps p.tables e below (T94.setTop (mkF m 422 #[.val (.long cc), .second, .val (.int rate), .val (.int days), .val (.int y), .val (.int pp), .val (.int ss), .val (.ref b), .val (.long (9223372036854775807 : Int64)), .second, .val (.int (ydF y)), .val (.int (pp % (24 : Int32))), .val (.int (ss % (24 : Int32))), .val (.int (tL pp ss)), .val (.long (rdF rate days)), .second, .val (.long (perF rate.toInt64 days.toInt64 (powF N))), .second, .val (.long ((ydF y).toInt64)), .second, .val (.long cc), .second, .val (.long (cc * (perF rate.toInt64 days.toInt64 (powF N)))), .second, .val (.long ((cc * (perF rate.toInt64 days.toInt64 (powF N))) / ((ydF y).toInt64))), .second, .val (.long (absL ((cc * (perF rate.toInt64 days.toInt64 (powF N))) % ((ydF y).toInt64)))), .second, .unset, .unset, .unset, .unset] [])) _
    refine XS.lconst X94.here hx rfl (hb hby at_422) ?_
    refine XS.lstore X94.here hx rfl (hb hby at_423) rfl (l' := #[.val (.long cc), .second, .val (.int rate), .val (.int days), .val (.int y), .val (.int pp), .val (.int ss), .val (.ref b), .val (.long (9223372036854775807 : Int64)), .second, .val (.int (ydF y)), .val (.int (pp % (24 : Int32))), .val (.int (ss % (24 : Int32))), .val (.int (tL pp ss)), .val (.long (rdF rate days)), .second, .val (.long (perF rate.toInt64 days.toInt64 (powF N))), .second, .val (.long ((ydF y).toInt64)), .second, .val (.long cc), .second, .val (.long (cc * (perF rate.toInt64 days.toInt64 (powF N)))), .second, .val (.long ((cc * (perF rate.toInt64 days.toInt64 (powF N))) / ((ydF y).toInt64))), .second, .val (.long (absL ((cc * (perF rate.toInt64 days.toInt64 (powF N))) % ((ydF y).toInt64)))), .second, .val (.long (0 : Int64)), .second, .unset, .unset]) rfl ?_
    refine XS.lload X94.here hx rfl (hb hby at_425) rfl ?_
    refine XS.lload X94.here hx rfl (hb hby at_427) rfl ?_
    refine XS.ladd X94.here hx rfl (hb hby at_429) rfl ?_
    refine XS.lstore X94.here hx rfl (hb hby at_430) rfl (l' := #[.val (.long cc), .second, .val (.int rate), .val (.int days), .val (.int y), .val (.int pp), .val (.int ss), .val (.ref b), .val (.long (9223372036854775807 : Int64)), .second, .val (.int (ydF y)), .val (.int (pp % (24 : Int32))), .val (.int (ss % (24 : Int32))), .val (.int (tL pp ss)), .val (.long (rdF rate days)), .second, .val (.long (perF rate.toInt64 days.toInt64 (powF N))), .second, .val (.long ((ydF y).toInt64)), .second, .val (.long cc), .second, .val (.long (cc * (perF rate.toInt64 days.toInt64 (powF N)))), .second, .val (.long ((cc * (perF rate.toInt64 days.toInt64 (powF N))) / ((ydF y).toInt64))), .second, .val (.long (absL ((cc * (perF rate.toInt64 days.toInt64 (powF N))) % ((ydF y).toInt64)))), .second, .val (.long (0 : Int64)), .second, .val (.long (((cc * (perF rate.toInt64 days.toInt64 (powF N))) / ((ydF y).toInt64)) + (0 : Int64))), .second]) rfl ?_
    refine XS.lload X94.here hx rfl (hb hby at_432) rfl ?_
    refine XS.iloadN X94.here hx rfl (hb hby at_434) rfl ?_
    show Steps p.tables e below (T94.setTop (mkF m 435 #[.val (.long cc), .second, .val (.int rate), .val (.int days), .val (.int y), .val (.int pp), .val (.int ss), .val (.ref b), .val (.long (9223372036854775807 : Int64)), .second, .val (.int (ydF y)), .val (.int (pp % (24 : Int32))), .val (.int (ss % (24 : Int32))), .val (.int (tL pp ss)), .val (.long (rdF rate days)), .second, .val (.long (perF rate.toInt64 days.toInt64 (powF N))), .second, .val (.long ((ydF y).toInt64)), .second, .val (.long cc), .second, .val (.long (cc * (perF rate.toInt64 days.toInt64 (powF N)))), .second, .val (.long ((cc * (perF rate.toInt64 days.toInt64 (powF N))) / ((ydF y).toInt64))), .second, .val (.long (absL ((cc * (perF rate.toInt64 days.toInt64 (powF N))) % ((ydF y).toInt64)))), .second, .val (.long (0 : Int64)), .second, .val (.long (((cc * (perF rate.toInt64 days.toInt64 (powF N))) / ((ydF y).toInt64)) + (0 : Int64))), .second] [(.int rate), (.long cc)])) _
    refine XS.i2l X94.here hx rfl (hb hby at_435) rfl ?_
    refine XS.iload X94.here hx rfl (hb hby at_436) rfl ?_
    refine XS.iloadN X94.here hx rfl (hb hby at_438) rfl ?_
    refine XS.i2l X94.here hx rfl (hb hby at_439) rfl ?_
    refine XS.iload X94.here hx rfl (hb hby at_440) rfl ?_
    refine XS.iload X94.here hx rfl (hb hby at_442) rfl ?_
    show Steps p.tables e below (T94.setTop (mkF m 444 #[.val (.long cc), .second, .val (.int rate), .val (.int days), .val (.int y), .val (.int pp), .val (.int ss), .val (.ref b), .val (.long (9223372036854775807 : Int64)), .second, .val (.int (ydF y)), .val (.int (pp % (24 : Int32))), .val (.int (ss % (24 : Int32))), .val (.int (tL pp ss)), .val (.long (rdF rate days)), .second, .val (.long (perF rate.toInt64 days.toInt64 (powF N))), .second, .val (.long ((ydF y).toInt64)), .second, .val (.long cc), .second, .val (.long (cc * (perF rate.toInt64 days.toInt64 (powF N)))), .second, .val (.long ((cc * (perF rate.toInt64 days.toInt64 (powF N))) / ((ydF y).toInt64))), .second, .val (.long (absL ((cc * (perF rate.toInt64 days.toInt64 (powF N))) % ((ydF y).toInt64)))), .second, .val (.long (0 : Int64)), .second, .val (.long (((cc * (perF rate.toInt64 days.toInt64 (powF N))) / ((ydF y).toInt64)) + (0 : Int64))), .second] [(.int (pp % (24 : Int32))), (.int (ydF y)), (.long (days.toInt64)), (.int (ss % (24 : Int32))), (.long (rate.toInt64)), (.long cc)])) _
    refine st95 _ ?_
    refine XS.lload X95.here hx rfl (hb hby at_447) rfl ?_
    refine XS.lcmp X95.here hx rfl (hb hby at_449) rfl ?_
    refine XS.ifNo X95.here hx rfl (hb hby at_450) rfl ((if0 _ _).trans (teq hc450).2) ?_
    refine XS.iconst X95.here hx rfl (hb hby at_453) ?_
    refine XS.goto X95.here hx rfl (pc0 := 454) (pc' := 458) rfl (hb hby at_454) (by decide) (by decide) ?_
    show Steps p.tables e below (T95.setTop (mkF m 458 #[.val (.long cc), .second, .val (.int rate), .val (.int days), .val (.int y), .val (.int pp), .val (.int ss), .val (.ref b), .val (.long (9223372036854775807 : Int64)), .second, .val (.int (ydF y)), .val (.int (pp % (24 : Int32))), .val (.int (ss % (24 : Int32))), .val (.int (tL pp ss)), .val (.long (rdF rate days)), .second, .val (.long (perF rate.toInt64 days.toInt64 (powF N))), .second, .val (.long ((ydF y).toInt64)), .second, .val (.long cc), .second, .val (.long (cc * (perF rate.toInt64 days.toInt64 (powF N)))), .second, .val (.long ((cc * (perF rate.toInt64 days.toInt64 (powF N))) / ((ydF y).toInt64))), .second, .val (.long (absL ((cc * (perF rate.toInt64 days.toInt64 (powF N))) % ((ydF y).toInt64)))), .second, .val (.long (0 : Int64)), .second, .val (.long (((cc * (perF rate.toInt64 days.toInt64 (powF N))) / ((ydF y).toInt64)) + (0 : Int64))), .second] [(.int (1 : Int32))])) _
    exact retN X95 hx (t := .boolean) Bd.returns (by simp) (hb hby at_458) hr
  · show Q0  h0 n0 _ T95.heap _
    exact ⟨rfl, N95⟩
set_option maxRecDepth 65536 in
set_option maxHeartbeats 40000000 in
theorem rm0_P0 (l : Launch) (Z : State) (a0 : Array Value) (hw : ∀ d ∈ tables_1, d.before a0 Z = true) (ws : List Jvm.Cond) (cc : Int64) (rate : Int32) (days : Int32) (y : Int32) (pp : Int32) (ss : Int32) (N : Nat) (h0 : Heap) (n0 : Nat) (Z0 : n0 ≤ h0.size) (hj : (tL pp ss) = Int32.ofNat N) (hj1 : N < 19) (hc174 : ¬ ((18 : Int32) < (tL pp ss))) (hc181 : ¬ ((tL pp ss) < (-18 : Int32))) (hc220 : (0 : Int32) < (tL pp ss)) (hnz235 : ¬ ((powF N) = (0 : Int64))) (hc237 : ¬ ((0 : Int32) < (lcmpW (absL (rdF rate days)) ((9223372036854775807 : Int64) / (powF N))))) (hc351 : ¬ ((lcmpW (perF rate.toInt64 days.toInt64 (powF N)) (0 : Int64)) = (0 : Int32))) (hnz366 : ¬ ((absL (perF rate.toInt64 days.toInt64 (powF N))) = (0 : Int64))) (hnz367 : ¬ (((9223372036854775807 : Int64) / (absL (perF rate.toInt64 days.toInt64 (powF N)))) = (0 : Int64))) (hnz381 : ¬ (((ydF y).toInt64) = (0 : Int64))) (hnz388 : ¬ (((ydF y).toInt64) = (0 : Int64))) (hc402 : (lcmpW (absL (((centF cc (perF rate.toInt64 days.toInt64 (powF N))) * (perF rate.toInt64 days.toInt64 (powF N))) % ((ydF y).toInt64))) (((ydF y).toInt64) - (absL (((centF cc (perF rate.toInt64 days.toInt64 (powF N))) * (perF rate.toInt64 days.toInt64 (powF N))) % ((ydF y).toInt64))))) < (0 : Int32)) (hN : absI (tA (pp % (24 : Int32)) (ss % (24 : Int32))) = Int32.ofNat N) (hN1 : N < 100) (fhc18 : ¬ ((18 : Int32) < (absI (tA (pp % (24 : Int32)) (ss % (24 : Int32)))))) (fhc37 : (0 : Int32) < (tA (pp % (24 : Int32)) (ss % (24 : Int32)))) (fhc50 : (0 : Int32) < (tA (pp % (24 : Int32)) (ss % (24 : Int32)))) (fhc67 : ¬ ((proF (rate.toInt64) (days.toInt64)) = (0 : Int32))) (fhc79 : ¬ ((proF ((rate.toInt64) * (days.toInt64)) (powF N)) = (0 : Int32))) (fhc90 : ¬ ((proF ((ydF y).toInt64) (1 : Int64)) = (0 : Int32))) (fhnz118 : ¬ ((divF (ydF y) (1 : Int64)) = (0 : Int64))) (fhnz125 : ¬ ((divF (ydF y) (1 : Int64)) = (0 : Int64))) (fhc134 : ¬ ((proF (centF cc (perF rate.toInt64 days.toInt64 (powF N))) ((perF (rate.toInt64) (days.toInt64) (powF N)) / (divF (ydF y) (1 : Int64)))) = (0 : Int32))) (fhc143 : ¬ ((proF (centF cc (perF rate.toInt64 days.toInt64 (powF N))) ((perF (rate.toInt64) (days.toInt64) (powF N)) % (divF (ydF y) (1 : Int64)))) = (0 : Int32))) (fhnz162 : ¬ ((divF (ydF y) (1 : Int64)) = (0 : Int64))) (fhnz171 : ¬ ((divF (ydF y) (1 : Int64)) = (0 : Int64))) (fhc185 : (lcmpW (remF (centF cc (perF rate.toInt64 days.toInt64 (powF N))) ((perF (rate.toInt64) (days.toInt64) (powF N)) % (divF (ydF y) (1 : Int64))) (divF (ydF y) (1 : Int64))) ((divF (ydF y) (1 : Int64)) - (remF (centF cc (perF rate.toInt64 days.toInt64 (powF N))) ((perF (rate.toInt64) (days.toInt64) (powF N)) % (divF (ydF y) (1 : Int64))) (divF (ydF y) (1 : Int64))))) < (0 : Int32)) (fhc212 : ¬ ((sumF ((centF cc (perF rate.toInt64 days.toInt64 (powF N))) * ((perF (rate.toInt64) (days.toInt64) (powF N)) / (divF (ydF y) (1 : Int64)))) (((centF cc (perF rate.toInt64 days.toInt64 (powF N))) * ((perF (rate.toInt64) (days.toInt64) (powF N)) % (divF (ydF y) (1 : Int64)))) / (divF (ydF y) (1 : Int64)))) = (0 : Int32))) (fhc225 : ¬ ((sumF (((centF cc (perF rate.toInt64 days.toInt64 (powF N))) * ((perF (rate.toInt64) (days.toInt64) (powF N)) / (divF (ydF y) (1 : Int64)))) + (((centF cc (perF rate.toInt64 days.toInt64 (powF N))) * ((perF (rate.toInt64) (days.toInt64) (powF N)) % (divF (ydF y) (1 : Int64)))) / (divF (ydF y) (1 : Int64)))) (0 : Int64)) = (0 : Int32))) (hc450 : (lcmpW (sum3 ((centF cc (perF rate.toInt64 days.toInt64 (powF N))) * ((perF (rate.toInt64) (days.toInt64) (powF N)) / (divF (ydF y) (1 : Int64)))) (((centF cc (perF rate.toInt64 days.toInt64 (powF N))) * ((perF (rate.toInt64) (days.toInt64) (powF N)) % (divF (ydF y) (1 : Int64)))) / (divF (ydF y) (1 : Int64))) (0 : Int64)) ((((centF cc (perF rate.toInt64 days.toInt64 (powF N))) * (perF rate.toInt64 days.toInt64 (powF N))) / ((ydF y).toInt64)) + (0 : Int64))) = (0 : Int32)) :
    MetFree l x (head1 (Jvm.Cond.code x code maxLocals ret :: ws) room_1) (fun aa U => aa = #[(.long cc), (.int rate), (.int days), (.int y), (.int pp), (.int ss)] ∧ Z.Warmed39 U.vm ∧ U.heap = h0) (fun _ _ _ _ _ => True) (fun _ U o U' => ∃ v L, o = .returned v ∧ Q0  h0 n0 v U'.heap L ∧ FrameEnd U o U' L room_1.cells room_1.slots) := by
  refine MetFree.of_bodySF (plainFor_of_name pn_0) hisR ?_
  intro p e s m args below meth c s₁ Bd hml0 hP hK
  obtain ⟨rfl, hZ, hh⟩ := hP
  have hx := Bd.exec
  have hby := Bd.bytes
  have hml : c.maxLocals = 32 := hml0
  have hown : s.vm.findClass "com/example/syndicata/syndicata/AccrualAccruedUnitsPinLaw" = some m.cls := findClass_of_methodNamed Bd.named
  have hnm := (name_of_methodNamed Bd.named Bd.method).1
  have X0 : Stand p l e room_1 s m #[(.long cc), (.int rate), (.int days), (.int y), (.int pp), (.int ss)] below meth c s₁ [] 0 0 := Stand.of_body Bd
  have e0 : s₁.heap = h0 := by rw [← hh, Bd.state]; rfl
  have N0 := Fr.nil n0
  have pre0 : ∀ zz, Steps p.tables e below (s₁.setTop (mkF m 0 #[.val (.long cc), .second, .val (.int rate), .val (.int days), .val (.int y), .val (.int pp), .val (.int ss), .unset, .unset, .unset, .unset, .unset, .unset, .unset, .unset, .unset, .unset, .unset, .unset, .unset, .unset, .unset, .unset, .unset, .unset, .unset, .unset, .unset, .unset, .unset, .unset, .unset] [])) zz → Steps p.tables e below (s₁.setTop (entryFrame m #[(.long cc), (.int rate), (.int days), (.int y), (.int pp), (.int ss)] maxLocals)) zz := fun zz k => castTop (ef_0 m cc rate days y pp ss) k
  obtain ⟨Tf, hf1, b, kk, locs1, Xf, ef, Zf, Vf, Nf, stf⟩ := fill0 (n0 := n0) cc rate days y pp ss X0 hx hZ hw hby hown e0 Z0
  obtain ⟨cl, Ar, q_, S_, N_, H_, G_⟩ := Vf
  have hjc : ((tL pp ss)).toNatClampNeg = N := by rw [hj]; exact ofNat_clamp (by omega)
  have hsz : cl.slots.size = 19 := S_
  have hin : ¬ ((tL pp ss) < 0 ∨ cl.slots.size ≤ ((tL pp ss)).toNatClampNeg) := by rw [hjc, hsz]; exact fun q => q.elim (by rw [hj]; exact ofNat_nn (by omega)) (fun q => absurd q (by omega))
  have hat : cl.slots[((tL pp ss)).toNatClampNeg]? = some (.long (powF N)) := by rw [hjc, H_ N (by omega), tens_at N hj1]
  obtain ⟨_, _, ⟨T96, L96, k96, n96⟩, -, X96, ⟨Lc96, hQ96, l96, y96, z96⟩, st96⟩ := Jvm.LawKit.callS Xf hx (y := (⟨"java/lang/Math", "max", "(II)I"⟩ : MethodName)) hown (mvT hZ (hw _ (List.mem_of_getElem? (i := 21) rfl))) (mvT hZ (hw _ (List.mem_of_getElem? (i := 22) rfl))) (mvT hZ (hw _ (List.mem_of_getElem? (i := 23) rfl))) (mvT hZ (hw _ (List.mem_of_getElem? (i := 24) rfl))) (by decide) (backOf (W := 0) (rm1 l Z a0 hw [] (1 : Int32) (y &&& (2147483647 : Int32)) hf1 n0 Zf) hZ (hw _ (List.mem_of_getElem? (i := 24) rfl)) (hw _ (List.mem_of_getElem? (i := 23) rfl)) (by decide) (by decide)) (g := (mkF m 142 #[.val (.long cc), .second, .val (.int rate), .val (.int days), .val (.int y), .val (.int pp), .val (.int ss), .val (.ref b), .val (.long (9223372036854775807 : Int64)), .second, .unset, .unset, .unset, .unset, .unset, .unset, .unset, .unset, .unset, .unset, .unset, .unset, .unset, .unset, .unset, .unset, .unset, .unset, .unset, .unset, .unset, .unset] [(.int (y &&& (2147483647 : Int32))), (.int (1 : Int32))])) rfl (by rw [hml]; rfl) (argsL := [(.int (1 : Int32)), (.int (y &&& (2147483647 : Int32)))]) (rest := []) (lenOf pd_0 rfl) rfl (by show 2 * 0 + _ ≤ _; exact Nat.le_of_eq rfl) (hb hby at_142) (fun _ _ => ⟨rfl, ef, (by decide : 1 + 0 ≤ _), (by decide : 19 + 0 ≤ _)⟩)
  dsimp only [Pt.U, Pt.locs, Pt.cells, Pt.slots] at X96 l96 y96 z96 st96 hQ96
  subst l96 y96 z96
  obtain ⟨rfl, N96q, e96⟩ := hQ96
  have N96 := Fr.app Nf N96q
  obtain ⟨_, _, ⟨T97, L97, k97, n97⟩, -, X97, ⟨Lc97, hQ97, l97, y97, z97⟩, st97⟩ := Jvm.LawKit.callS X96 hx (y := (⟨"java/lang/Math", "abs", "(J)J"⟩ : MethodName)) hown (mvT hZ (hw _ (List.mem_of_getElem? (i := 25) rfl))) (mvT hZ (hw _ (List.mem_of_getElem? (i := 26) rfl))) (mvT hZ (hw _ (List.mem_of_getElem? (i := 23) rfl))) (mvT hZ (hw _ (List.mem_of_getElem? (i := 27) rfl))) (by decide) (backOf (W := 0) (rm2 l Z a0 hw [] (rdF rate days) hf1 n0 Zf) hZ (hw _ (List.mem_of_getElem? (i := 27) rfl)) (hw _ (List.mem_of_getElem? (i := 23) rfl)) (by decide) (by decide)) (g := (mkF m 225 #[.val (.long cc), .second, .val (.int rate), .val (.int days), .val (.int y), .val (.int pp), .val (.int ss), .val (.ref b), .val (.long (9223372036854775807 : Int64)), .second, .val (.int (ydF y)), .val (.int (pp % (24 : Int32))), .val (.int (ss % (24 : Int32))), .val (.int (tL pp ss)), .val (.long (rdF rate days)), .second, .unset, .unset, .unset, .unset, .unset, .unset, .unset, .unset, .unset, .unset, .unset, .unset, .unset, .unset, .unset, .unset] [(.long (rdF rate days))])) rfl (by rw [hml]; rfl) (argsL := [(.long (rdF rate days))]) (rest := []) (lenOf pd_1 rfl) rfl (by show 2 * 0 + _ ≤ _; exact Nat.le_of_eq rfl) (hb hby at_225) (fun _ _ => ⟨rfl, e96, (by decide : 1 + 0 ≤ _), (by decide : 19 + 0 ≤ _)⟩)
  dsimp only [Pt.U, Pt.locs, Pt.cells, Pt.slots] at X97 l97 y97 z97 st97 hQ97
  subst l97 y97 z97
  obtain ⟨rfl, N97q, e97⟩ := hQ97
  have N97 := Fr.app N96 N97q
  obtain ⟨_, _, ⟨T98, L98, k98, n98⟩, -, X98, ⟨Lc98, hQ98, l98, y98, z98⟩, st98⟩ := Jvm.LawKit.callS X97 hx (y := (⟨"java/lang/Math", "abs", "(J)J"⟩ : MethodName)) hown (mvT hZ (hw _ (List.mem_of_getElem? (i := 25) rfl))) (mvT hZ (hw _ (List.mem_of_getElem? (i := 26) rfl))) (mvT hZ (hw _ (List.mem_of_getElem? (i := 23) rfl))) (mvT hZ (hw _ (List.mem_of_getElem? (i := 27) rfl))) (by decide) (backOf (W := 4) (rm2 l Z a0 hw [] (perF rate.toInt64 days.toInt64 (powF N)) hf1 n0 Zf) hZ (hw _ (List.mem_of_getElem? (i := 27) rfl)) (hw _ (List.mem_of_getElem? (i := 23) rfl)) (by decide) (by decide)) (g := (mkF m 363 #[.val (.long cc), .second, .val (.int rate), .val (.int days), .val (.int y), .val (.int pp), .val (.int ss), .val (.ref b), .val (.long (9223372036854775807 : Int64)), .second, .val (.int (ydF y)), .val (.int (pp % (24 : Int32))), .val (.int (ss % (24 : Int32))), .val (.int (tL pp ss)), .val (.long (rdF rate days)), .second, .val (.long (perF rate.toInt64 days.toInt64 (powF N))), .second, .val (.long ((ydF y).toInt64)), .second, .unset, .unset, .unset, .unset, .unset, .unset, .unset, .unset, .unset, .unset, .unset, .unset] [(.long (perF rate.toInt64 days.toInt64 (powF N))), (.long (9223372036854775807 : Int64)), (.long cc)])) rfl (by rw [hml]; rfl) (argsL := [(.long (perF rate.toInt64 days.toInt64 (powF N)))]) (rest := [(.long (9223372036854775807 : Int64)), (.long cc)]) (lenOf pd_1 rfl) rfl (by show 2 * 0 + _ ≤ _; exact Nat.le_of_eq rfl) (hb hby at_363) (fun _ _ => ⟨rfl, e97, (by decide : 1 + 0 ≤ _), (by decide : 19 + 0 ≤ _)⟩)
  dsimp only [Pt.U, Pt.locs, Pt.cells, Pt.slots] at X98 l98 y98 z98 st98 hQ98
  subst l98 y98 z98
  obtain ⟨rfl, N98q, e98⟩ := hQ98
  have N98 := Fr.app N97 N98q
  obtain ⟨_, _, ⟨T99, L99, k99, n99⟩, -, X99, ⟨Lc99, hQ99, l99, y99, z99⟩, st99⟩ := Jvm.LawKit.callS X98 hx (y := (⟨"java/lang/Math", "abs", "(J)J"⟩ : MethodName)) hown (mvT hZ (hw _ (List.mem_of_getElem? (i := 25) rfl))) (mvT hZ (hw _ (List.mem_of_getElem? (i := 26) rfl))) (mvT hZ (hw _ (List.mem_of_getElem? (i := 23) rfl))) (mvT hZ (hw _ (List.mem_of_getElem? (i := 27) rfl))) (by decide) (backOf (W := 0) (rm2 l Z a0 hw [] (((centF cc (perF rate.toInt64 days.toInt64 (powF N))) * (perF rate.toInt64 days.toInt64 (powF N))) % ((ydF y).toInt64)) hf1 n0 Zf) hZ (hw _ (List.mem_of_getElem? (i := 27) rfl)) (hw _ (List.mem_of_getElem? (i := 23) rfl)) (by decide) (by decide)) (g := (mkF m 389 #[.val (.long cc), .second, .val (.int rate), .val (.int days), .val (.int y), .val (.int pp), .val (.int ss), .val (.ref b), .val (.long (9223372036854775807 : Int64)), .second, .val (.int (ydF y)), .val (.int (pp % (24 : Int32))), .val (.int (ss % (24 : Int32))), .val (.int (tL pp ss)), .val (.long (rdF rate days)), .second, .val (.long (perF rate.toInt64 days.toInt64 (powF N))), .second, .val (.long ((ydF y).toInt64)), .second, .val (.long (centF cc (perF rate.toInt64 days.toInt64 (powF N)))), .second, .val (.long ((centF cc (perF rate.toInt64 days.toInt64 (powF N))) * (perF rate.toInt64 days.toInt64 (powF N)))), .second, .val (.long (((centF cc (perF rate.toInt64 days.toInt64 (powF N))) * (perF rate.toInt64 days.toInt64 (powF N))) / ((ydF y).toInt64))), .second, .unset, .unset, .unset, .unset, .unset, .unset] [(.long (((centF cc (perF rate.toInt64 days.toInt64 (powF N))) * (perF rate.toInt64 days.toInt64 (powF N))) % ((ydF y).toInt64)))])) rfl (by rw [hml]; rfl) (argsL := [(.long (((centF cc (perF rate.toInt64 days.toInt64 (powF N))) * (perF rate.toInt64 days.toInt64 (powF N))) % ((ydF y).toInt64)))]) (rest := []) (lenOf pd_1 rfl) rfl (by show 2 * 0 + _ ≤ _; exact Nat.le_of_eq rfl) (hb hby at_389) (fun _ _ => ⟨rfl, e98, (by decide : 1 + 0 ≤ _), (by decide : 19 + 0 ≤ _)⟩)
  dsimp only [Pt.U, Pt.locs, Pt.cells, Pt.slots] at X99 l99 y99 z99 st99 hQ99
  subst l99 y99 z99
  obtain ⟨rfl, N99q, e99⟩ := hQ99
  have N99 := Fr.app N98 N99q
  obtain ⟨_, _, ⟨T100, L100, k100, n100⟩, -, X100, ⟨Lc100, hQ100, l100, y100, z100⟩, st100⟩ := Jvm.LawKit.callS X99 hx (y := (⟨"com/example/syndicata/syndicata/Accrual", "accruedUnits", "(JJIJII)J"⟩ : MethodName)) hown (mvT hZ (hw _ (List.mem_of_getElem? (i := 28) rfl))) (mvT hZ (hw _ (List.mem_of_getElem? (i := 29) rfl))) (mvT hZ (hw _ (List.mem_of_getElem? (i := 30) rfl))) (mvT hZ (hw _ (List.mem_of_getElem? (i := 31) rfl))) (by decide) (backOf (W := 0) (rm3_P0 l Z a0 hw [] (centF cc (perF rate.toInt64 days.toInt64 (powF N))) (rate.toInt64) (ss % (24 : Int32)) (days.toInt64) (ydF y) (pp % (24 : Int32)) N hf1 n0 Zf hN hN1 fhc18 fhc37 fhc50 fhc67 fhc79 fhc90 fhnz118 fhnz125 fhc134 fhc143 fhnz162 fhnz171 fhc185 fhc212 fhc225) hZ (hw _ (List.mem_of_getElem? (i := 31) rfl)) (hw _ (List.mem_of_getElem? (i := 30) rfl)) (by decide) (by decide)) (g := (mkF m 444 #[.val (.long cc), .second, .val (.int rate), .val (.int days), .val (.int y), .val (.int pp), .val (.int ss), .val (.ref b), .val (.long (9223372036854775807 : Int64)), .second, .val (.int (ydF y)), .val (.int (pp % (24 : Int32))), .val (.int (ss % (24 : Int32))), .val (.int (tL pp ss)), .val (.long (rdF rate days)), .second, .val (.long (perF rate.toInt64 days.toInt64 (powF N))), .second, .val (.long ((ydF y).toInt64)), .second, .val (.long (centF cc (perF rate.toInt64 days.toInt64 (powF N)))), .second, .val (.long ((centF cc (perF rate.toInt64 days.toInt64 (powF N))) * (perF rate.toInt64 days.toInt64 (powF N)))), .second, .val (.long (((centF cc (perF rate.toInt64 days.toInt64 (powF N))) * (perF rate.toInt64 days.toInt64 (powF N))) / ((ydF y).toInt64))), .second, .val (.long (absL (((centF cc (perF rate.toInt64 days.toInt64 (powF N))) * (perF rate.toInt64 days.toInt64 (powF N))) % ((ydF y).toInt64)))), .second, .val (.long (0 : Int64)), .second, .val (.long ((((centF cc (perF rate.toInt64 days.toInt64 (powF N))) * (perF rate.toInt64 days.toInt64 (powF N))) / ((ydF y).toInt64)) + (0 : Int64))), .second] [(.int (pp % (24 : Int32))), (.int (ydF y)), (.long (days.toInt64)), (.int (ss % (24 : Int32))), (.long (rate.toInt64)), (.long (centF cc (perF rate.toInt64 days.toInt64 (powF N))))])) rfl (by rw [hml]; rfl) (argsL := [(.long (centF cc (perF rate.toInt64 days.toInt64 (powF N)))), (.long (rate.toInt64)), (.int (ss % (24 : Int32))), (.long (days.toInt64)), (.int (ydF y)), (.int (pp % (24 : Int32)))]) (rest := []) (lenOf pd_2 rfl) rfl (by show 2 * 0 + _ ≤ _; exact Nat.le_of_eq rfl) (hb hby at_444) (fun _ _ => ⟨rfl, e99, (by decide : 1 + 0 ≤ _), (by decide : 19 + 0 ≤ _)⟩)
  dsimp only [Pt.U, Pt.locs, Pt.cells, Pt.slots] at X100 l100 y100 z100 st100 hQ100
  subst l100 y100 z100
  obtain ⟨rfl, N100q, e100⟩ := hQ100
  have N100 := Fr.app N99 N100q
  obtain ⟨fs, hr, hrun, hended, hW, hsame⟩ := X100.leave (v := some (.int (1 : Int32))) (fun h => by rw [Bd.returns] at h; cases h)
  refine ⟨_, _, pre0 _ ?_, hrun, hended, _, _, rfl, ?_, ⟨_, rfl⟩, hW, hsame.mono (by decide) (by decide)⟩
  · show Steps p.tables e below (s₁.setTop (mkF m 0 #[.val (.long cc), .second, .val (.int rate), .val (.int days), .val (.int y), .val (.int pp), .val (.int ss), .unset, .unset, .unset, .unset, .unset, .unset, .unset, .unset, .unset, .unset, .unset, .unset, .unset, .unset, .unset, .unset, .unset, .unset, .unset, .unset, .unset, .unset, .unset, .unset, .unset] [])) _
    refine stf _ ?_
    show Steps p.tables e below (Tf.setTop (mkF m 131 #[.val (.long cc), .second, .val (.int rate), .val (.int days), .val (.int y), .val (.int pp), .val (.int ss), .val (.ref b), .unset, .unset, .unset, .unset, .unset, .unset, .unset, .unset, .unset, .unset, .unset, .unset, .unset, .unset, .unset, .unset, .unset, .unset, .unset, .unset, .unset, .unset, .unset, .unset] [])) _
    refine Xf.ldc2Long hx hown (mvT hZ (hw _ (List.mem_of_getElem? (i := 19) rfl))) (g := (mkF m 131 #[.val (.long cc), .second, .val (.int rate), .val (.int days), .val (.int y), .val (.int pp), .val (.int ss), .val (.ref b), .unset, .unset, .unset, .unset, .unset, .unset, .unset, .unset, .unset, .unset, .unset, .unset, .unset, .unset, .unset, .unset, .unset, .unset, .unset, .unset, .unset, .unset, .unset, .unset] [])) rfl (hb hby at_131) _ ?_
    refine XS.lstore Xf.here hx rfl (hb hby at_134) rfl (l' := #[.val (.long cc), .second, .val (.int rate), .val (.int days), .val (.int y), .val (.int pp), .val (.int ss), .val (.ref b), .val (.long (9223372036854775807 : Int64)), .second, .unset, .unset, .unset, .unset, .unset, .unset, .unset, .unset, .unset, .unset, .unset, .unset, .unset, .unset, .unset, .unset, .unset, .unset, .unset, .unset, .unset, .unset]) rfl ?_
    refine XS.iconst Xf.here hx rfl (hb hby at_136) ?_
    refine XS.iload Xf.here hx rfl (hb hby at_137) rfl ?_
    refine Xf.ldcInt hx hown (mvT hZ (hw _ (List.mem_of_getElem? (i := 20) rfl))) (g := (mkF m 139 #[.val (.long cc), .second, .val (.int rate), .val (.int days), .val (.int y), .val (.int pp), .val (.int ss), .val (.ref b), .val (.long (9223372036854775807 : Int64)), .second, .unset, .unset, .unset, .unset, .unset, .unset, .unset, .unset, .unset, .unset, .unset, .unset, .unset, .unset, .unset, .unset, .unset, .unset, .unset, .unset, .unset, .unset] [(.int y), (.int (1 : Int32))])) rfl (hb hby at_139) _ ?_
    refine XS.iand Xf.here hx rfl (hb hby at_141) rfl ?_
    show Steps p.tables e below (Tf.setTop (mkF m 142 #[.val (.long cc), .second, .val (.int rate), .val (.int days), .val (.int y), .val (.int pp), .val (.int ss), .val (.ref b), .val (.long (9223372036854775807 : Int64)), .second, .unset, .unset, .unset, .unset, .unset, .unset, .unset, .unset, .unset, .unset, .unset, .unset, .unset, .unset, .unset, .unset, .unset, .unset, .unset, .unset, .unset, .unset] [(.int (y &&& (2147483647 : Int32))), (.int (1 : Int32))])) _
    refine st96 _ ?_
    show Steps p.tables e below (T96.setTop (mkF m 145 #[.val (.long cc), .second, .val (.int rate), .val (.int days), .val (.int y), .val (.int pp), .val (.int ss), .val (.ref b), .val (.long (9223372036854775807 : Int64)), .second, .unset, .unset, .unset, .unset, .unset, .unset, .unset, .unset, .unset, .unset, .unset, .unset, .unset, .unset, .unset, .unset, .unset, .unset, .unset, .unset, .unset, .unset] [(.int (ydF y))])) _
    refine XS.istore X96.here hx rfl (hb hby at_145) rfl (l' := #[.val (.long cc), .second, .val (.int rate), .val (.int days), .val (.int y), .val (.int pp), .val (.int ss), .val (.ref b), .val (.long (9223372036854775807 : Int64)), .second, .val (.int (ydF y)), .unset, .unset, .unset, .unset, .unset, .unset, .unset, .unset, .unset, .unset, .unset, .unset, .unset, .unset, .unset, .unset, .unset, .unset, .unset, .unset, .unset]) rfl ?_
    refine XS.iload X96.here hx rfl (hb hby at_147) rfl ?_
    refine XS.bipush X96.here hx rfl (hb hby at_149) ?_
    refine gwIrem X96.here hx rfl (hb hby at_151) rfl (by decide : ¬ ((24 : Int32) = (0 : Int32))) ?_
    refine XS.istore X96.here hx rfl (hb hby at_152) rfl (l' := #[.val (.long cc), .second, .val (.int rate), .val (.int days), .val (.int y), .val (.int pp), .val (.int ss), .val (.ref b), .val (.long (9223372036854775807 : Int64)), .second, .val (.int (ydF y)), .val (.int (pp % (24 : Int32))), .unset, .unset, .unset, .unset, .unset, .unset, .unset, .unset, .unset, .unset, .unset, .unset, .unset, .unset, .unset, .unset, .unset, .unset, .unset, .unset]) rfl ?_
    refine XS.iload X96.here hx rfl (hb hby at_154) rfl ?_
    refine XS.bipush X96.here hx rfl (hb hby at_156) ?_
    refine gwIrem X96.here hx rfl (hb hby at_158) rfl (by decide : ¬ ((24 : Int32) = (0 : Int32))) ?_
    show Steps p.tables e below (T96.setTop (mkF m 159 #[.val (.long cc), .second, .val (.int rate), .val (.int days), .val (.int y), .val (.int pp), .val (.int ss), .val (.ref b), .val (.long (9223372036854775807 : Int64)), .second, .val (.int (ydF y)), .val (.int (pp % (24 : Int32))), .unset, .unset, .unset, .unset, .unset, .unset, .unset, .unset, .unset, .unset, .unset, .unset, .unset, .unset, .unset, .unset, .unset, .unset, .unset, .unset] [(.int (ss % (24 : Int32)))])) _
    refine XS.istore X96.here hx rfl (hb hby at_159) rfl (l' := #[.val (.long cc), .second, .val (.int rate), .val (.int days), .val (.int y), .val (.int pp), .val (.int ss), .val (.ref b), .val (.long (9223372036854775807 : Int64)), .second, .val (.int (ydF y)), .val (.int (pp % (24 : Int32))), .val (.int (ss % (24 : Int32))), .unset, .unset, .unset, .unset, .unset, .unset, .unset, .unset, .unset, .unset, .unset, .unset, .unset, .unset, .unset, .unset, .unset, .unset, .unset]) rfl ?_
    refine XS.iload X96.here hx rfl (hb hby at_161) rfl ?_
    refine XS.iconst X96.here hx rfl (hb hby at_163) ?_
    refine XS.isub X96.here hx rfl (hb hby at_164) rfl ?_
    refine XS.iload X96.here hx rfl (hb hby at_165) rfl ?_
    refine XS.isub X96.here hx rfl (hb hby at_167) rfl ?_
    show Steps p.tables e below (T96.setTop (mkF m 168 #[.val (.long cc), .second, .val (.int rate), .val (.int days), .val (.int y), .val (.int pp), .val (.int ss), .val (.ref b), .val (.long (9223372036854775807 : Int64)), .second, .val (.int (ydF y)), .val (.int (pp % (24 : Int32))), .val (.int (ss % (24 : Int32))), .unset, .unset, .unset, .unset, .unset, .unset, .unset, .unset, .unset, .unset, .unset, .unset, .unset, .unset, .unset, .unset, .unset, .unset, .unset] [(.int (tL pp ss))])) _
    refine XS.istore X96.here hx rfl (hb hby at_168) rfl (l' := #[.val (.long cc), .second, .val (.int rate), .val (.int days), .val (.int y), .val (.int pp), .val (.int ss), .val (.ref b), .val (.long (9223372036854775807 : Int64)), .second, .val (.int (ydF y)), .val (.int (pp % (24 : Int32))), .val (.int (ss % (24 : Int32))), .val (.int (tL pp ss)), .unset, .unset, .unset, .unset, .unset, .unset, .unset, .unset, .unset, .unset, .unset, .unset, .unset, .unset, .unset, .unset, .unset, .unset]) rfl ?_
    refine XS.iload X96.here hx rfl (hb hby at_170) rfl ?_
    refine XS.bipush X96.here hx rfl (hb hby at_172) ?_
    refine XS.icmpNo X96.here hx rfl (hb hby at_174) rfl (flt hc174).2.2.1 ?_
    refine XS.iload X96.here hx rfl (hb hby at_177) rfl ?_
    refine XS.bipush X96.here hx rfl (hb hby at_179) ?_
    refine XS.icmpYes X96.here hx rfl (pc0 := 181) (pc' := 211) rfl (hb hby at_181) rfl (flt hc181).2.1 (by decide) (by decide) ?_
    refine XS.iloadN X96.here hx rfl (hb hby at_211) rfl ?_
    show Steps p.tables e below (T96.setTop (mkF m 212 #[.val (.long cc), .second, .val (.int rate), .val (.int days), .val (.int y), .val (.int pp), .val (.int ss), .val (.ref b), .val (.long (9223372036854775807 : Int64)), .second, .val (.int (ydF y)), .val (.int (pp % (24 : Int32))), .val (.int (ss % (24 : Int32))), .val (.int (tL pp ss)), .unset, .unset, .unset, .unset, .unset, .unset, .unset, .unset, .unset, .unset, .unset, .unset, .unset, .unset, .unset, .unset, .unset, .unset] [(.int rate)])) _
    refine XS.i2l X96.here hx rfl (hb hby at_212) rfl ?_
    refine XS.iloadN X96.here hx rfl (hb hby at_213) rfl ?_
    refine XS.i2l X96.here hx rfl (hb hby at_214) rfl ?_
    refine XS.lmul X96.here hx rfl (hb hby at_215) rfl ?_
    show Steps p.tables e below (T96.setTop (mkF m 216 #[.val (.long cc), .second, .val (.int rate), .val (.int days), .val (.int y), .val (.int pp), .val (.int ss), .val (.ref b), .val (.long (9223372036854775807 : Int64)), .second, .val (.int (ydF y)), .val (.int (pp % (24 : Int32))), .val (.int (ss % (24 : Int32))), .val (.int (tL pp ss)), .unset, .unset, .unset, .unset, .unset, .unset, .unset, .unset, .unset, .unset, .unset, .unset, .unset, .unset, .unset, .unset, .unset, .unset] [(.long (rdF rate days))])) _
    refine XS.lstore X96.here hx rfl (hb hby at_216) rfl (l' := #[.val (.long cc), .second, .val (.int rate), .val (.int days), .val (.int y), .val (.int pp), .val (.int ss), .val (.ref b), .val (.long (9223372036854775807 : Int64)), .second, .val (.int (ydF y)), .val (.int (pp % (24 : Int32))), .val (.int (ss % (24 : Int32))), .val (.int (tL pp ss)), .val (.long (rdF rate days)), .second, .unset, .unset, .unset, .unset, .unset, .unset, .unset, .unset, .unset, .unset, .unset, .unset, .unset, .unset, .unset, .unset]) rfl ?_
    refine XS.iload X96.here hx rfl (hb hby at_218) rfl ?_
    refine XS.ifNo X96.here hx rfl (hb hby at_220) rfl ((if0 _ _).trans (tlt hc220).2.2.2) ?_
    refine XS.lload X96.here hx rfl (hb hby at_223) rfl ?_
    show Steps p.tables e below (T96.setTop (mkF m 225 #[.val (.long cc), .second, .val (.int rate), .val (.int days), .val (.int y), .val (.int pp), .val (.int ss), .val (.ref b), .val (.long (9223372036854775807 : Int64)), .second, .val (.int (ydF y)), .val (.int (pp % (24 : Int32))), .val (.int (ss % (24 : Int32))), .val (.int (tL pp ss)), .val (.long (rdF rate days)), .second, .unset, .unset, .unset, .unset, .unset, .unset, .unset, .unset, .unset, .unset, .unset, .unset, .unset, .unset, .unset, .unset] [(.long (rdF rate days))])) _
    refine st97 _ ?_
    refine XS.lload X97.here hx rfl (hb hby at_228) rfl ?_
    refine XS.aload X97.here hx rfl (hb hby at_230) rfl rfl ?_
    refine XS.iload X97.here hx rfl (hb hby at_232) rfl ?_
    show Steps p.tables e below (T97.setTop (mkF m 234 #[.val (.long cc), .second, .val (.int rate), .val (.int days), .val (.int y), .val (.int pp), .val (.int ss), .val (.ref b), .val (.long (9223372036854775807 : Int64)), .second, .val (.int (ydF y)), .val (.int (pp % (24 : Int32))), .val (.int (ss % (24 : Int32))), .val (.int (tL pp ss)), .val (.long (rdF rate days)), .second, .unset, .unset, .unset, .unset, .unset, .unset, .unset, .unset, .unset, .unset, .unset, .unset, .unset, .unset, .unset, .unset] [(.int (tL pp ss)), (.ref b), (.long (9223372036854775807 : Int64)), (.long (absL (rdF rate days)))])) _
    refine X97.laload hx (j := (tL pp ss)) (v := (.long (powF N))) (by rw [e97]; exact Ar.1) (State.isArrayOf_alike hZ.alike Ar.2.1) Ar.2.2 hin hat (g := (mkF m 234 #[.val (.long cc), .second, .val (.int rate), .val (.int days), .val (.int y), .val (.int pp), .val (.int ss), .val (.ref b), .val (.long (9223372036854775807 : Int64)), .second, .val (.int (ydF y)), .val (.int (pp % (24 : Int32))), .val (.int (ss % (24 : Int32))), .val (.int (tL pp ss)), .val (.long (rdF rate days)), .second, .unset, .unset, .unset, .unset, .unset, .unset, .unset, .unset, .unset, .unset, .unset, .unset, .unset, .unset, .unset, .unset] [(.int (tL pp ss)), (.ref b), (.long (9223372036854775807 : Int64)), (.long (absL (rdF rate days)))])) rfl rfl (hb hby at_234) _ ?_
    refine XS.ldiv X97.here hx rfl (hb hby at_235) rfl hnz235 ?_
    refine XS.lcmp X97.here hx rfl (hb hby at_236) rfl ?_
    refine XS.ifYes X97.here hx rfl (pc0 := 237) (pc' := 267) rfl (hb hby at_237) rfl ((if0 _ _).trans (flt hc237).2.2.2) (by decide) (by decide) ?_
    refine XS.lload X97.here hx rfl (hb hby at_267) rfl ?_
    refine XS.aload X97.here hx rfl (hb hby at_269) rfl rfl ?_
    refine XS.iload X97.here hx rfl (hb hby at_271) rfl ?_
    show Steps p.tables e below (T97.setTop (mkF m 273 #[.val (.long cc), .second, .val (.int rate), .val (.int days), .val (.int y), .val (.int pp), .val (.int ss), .val (.ref b), .val (.long (9223372036854775807 : Int64)), .second, .val (.int (ydF y)), .val (.int (pp % (24 : Int32))), .val (.int (ss % (24 : Int32))), .val (.int (tL pp ss)), .val (.long (rdF rate days)), .second, .unset, .unset, .unset, .unset, .unset, .unset, .unset, .unset, .unset, .unset, .unset, .unset, .unset, .unset, .unset, .unset] [(.int (tL pp ss)), (.ref b), (.long (rdF rate days))])) _
    refine X97.laload hx (j := (tL pp ss)) (v := (.long (powF N))) (by rw [e97]; exact Ar.1) (State.isArrayOf_alike hZ.alike Ar.2.1) Ar.2.2 hin hat (g := (mkF m 273 #[.val (.long cc), .second, .val (.int rate), .val (.int days), .val (.int y), .val (.int pp), .val (.int ss), .val (.ref b), .val (.long (9223372036854775807 : Int64)), .second, .val (.int (ydF y)), .val (.int (pp % (24 : Int32))), .val (.int (ss % (24 : Int32))), .val (.int (tL pp ss)), .val (.long (rdF rate days)), .second, .unset, .unset, .unset, .unset, .unset, .unset, .unset, .unset, .unset, .unset, .unset, .unset, .unset, .unset, .unset, .unset] [(.int (tL pp ss)), (.ref b), (.long (rdF rate days))])) rfl rfl (hb hby at_273) _ ?_
    refine XS.lmul X97.here hx rfl (hb hby at_274) rfl ?_
    show Steps p.tables e below (T97.setTop (mkF m 275 #[.val (.long cc), .second, .val (.int rate), .val (.int days), .val (.int y), .val (.int pp), .val (.int ss), .val (.ref b), .val (.long (9223372036854775807 : Int64)), .second, .val (.int (ydF y)), .val (.int (pp % (24 : Int32))), .val (.int (ss % (24 : Int32))), .val (.int (tL pp ss)), .val (.long (rdF rate days)), .second, .unset, .unset, .unset, .unset, .unset, .unset, .unset, .unset, .unset, .unset, .unset, .unset, .unset, .unset, .unset, .unset] [(.long (perF rate.toInt64 days.toInt64 (powF N)))])) _
    refine XS.lstore X97.here hx rfl (hb hby at_275) rfl (l' := #[.val (.long cc), .second, .val (.int rate), .val (.int days), .val (.int y), .val (.int pp), .val (.int ss), .val (.ref b), .val (.long (9223372036854775807 : Int64)), .second, .val (.int (ydF y)), .val (.int (pp % (24 : Int32))), .val (.int (ss % (24 : Int32))), .val (.int (tL pp ss)), .val (.long (rdF rate days)), .second, .val (.long (perF rate.toInt64 days.toInt64 (powF N))), .second, .unset, .unset, .unset, .unset, .unset, .unset, .unset, .unset, .unset, .unset, .unset, .unset, .unset, .unset]) rfl ?_
    refine XS.iload X97.here hx rfl (hb hby at_277) rfl ?_
    refine XS.i2l X97.here hx rfl (hb hby at_279) rfl ?_
    refine XS.lstore X97.here hx rfl (hb hby at_280) rfl (l' := #[.val (.long cc), .second, .val (.int rate), .val (.int days), .val (.int y), .val (.int pp), .val (.int ss), .val (.ref b), .val (.long (9223372036854775807 : Int64)), .second, .val (.int (ydF y)), .val (.int (pp % (24 : Int32))), .val (.int (ss % (24 : Int32))), .val (.int (tL pp ss)), .val (.long (rdF rate days)), .second, .val (.long (perF rate.toInt64 days.toInt64 (powF N))), .second, .val (.long ((ydF y).toInt64)), .second, .unset, .unset, .unset, .unset, .unset, .unset, .unset, .unset, .unset, .unset, .unset, .unset]) rfl ?_
    refine XS.goto X97.here hx rfl (pc0 := 282) (pc' := 347) rfl (hb hby at_282) (by decide) (by decide) ?_
    refine XS.lload X97.here hx rfl (hb hby at_347) rfl ?_
    refine XS.lconst X97.here hx rfl (hb hby at_349) ?_
    refine XS.lcmp X97.here hx rfl (hb hby at_350) rfl ?_
    show Steps p.tables e below (T97.setTop (mkF m 351 #[.val (.long cc), .second, .val (.int rate), .val (.int days), .val (.int y), .val (.int pp), .val (.int ss), .val (.ref b), .val (.long (9223372036854775807 : Int64)), .second, .val (.int (ydF y)), .val (.int (pp % (24 : Int32))), .val (.int (ss % (24 : Int32))), .val (.int (tL pp ss)), .val (.long (rdF rate days)), .second, .val (.long (perF rate.toInt64 days.toInt64 (powF N))), .second, .val (.long ((ydF y).toInt64)), .second, .unset, .unset, .unset, .unset, .unset, .unset, .unset, .unset, .unset, .unset, .unset, .unset] [(.int (lcmpW (perF rate.toInt64 days.toInt64 (powF N)) (0 : Int64)))])) _
    refine XS.ifYes X97.here hx rfl (pc0 := 351) (pc' := 358) rfl (hb hby at_351) rfl ((if0 _ _).trans (feq hc351).2) (by decide) (by decide) ?_
    refine XS.lloadN X97.here hx rfl (hb hby at_358) rfl ?_
    refine XS.lload X97.here hx rfl (hb hby at_359) rfl ?_
    refine XS.lload X97.here hx rfl (hb hby at_361) rfl ?_
    show Steps p.tables e below (T97.setTop (mkF m 363 #[.val (.long cc), .second, .val (.int rate), .val (.int days), .val (.int y), .val (.int pp), .val (.int ss), .val (.ref b), .val (.long (9223372036854775807 : Int64)), .second, .val (.int (ydF y)), .val (.int (pp % (24 : Int32))), .val (.int (ss % (24 : Int32))), .val (.int (tL pp ss)), .val (.long (rdF rate days)), .second, .val (.long (perF rate.toInt64 days.toInt64 (powF N))), .second, .val (.long ((ydF y).toInt64)), .second, .unset, .unset, .unset, .unset, .unset, .unset, .unset, .unset, .unset, .unset, .unset, .unset] [(.long (perF rate.toInt64 days.toInt64 (powF N))), (.long (9223372036854775807 : Int64)), (.long cc)])) _
    refine st98 _ ?_
    refine XS.ldiv X98.here hx rfl (hb hby at_366) rfl hnz366 ?_
    refine gwLrem X98.here hx rfl (hb hby at_367) rfl hnz367 ?_
    show Steps p.tables e below (T98.setTop (mkF m 368 #[.val (.long cc), .second, .val (.int rate), .val (.int days), .val (.int y), .val (.int pp), .val (.int ss), .val (.ref b), .val (.long (9223372036854775807 : Int64)), .second, .val (.int (ydF y)), .val (.int (pp % (24 : Int32))), .val (.int (ss % (24 : Int32))), .val (.int (tL pp ss)), .val (.long (rdF rate days)), .second, .val (.long (perF rate.toInt64 days.toInt64 (powF N))), .second, .val (.long ((ydF y).toInt64)), .second, .unset, .unset, .unset, .unset, .unset, .unset, .unset, .unset, .unset, .unset, .unset, .unset] [(.long (centF cc (perF rate.toInt64 days.toInt64 (powF N))))])) _
    refine XS.lstore X98.here hx rfl (hb hby at_368) rfl (l' := #[.val (.long cc), .second, .val (.int rate), .val (.int days), .val (.int y), .val (.int pp), .val (.int ss), .val (.ref b), .val (.long (9223372036854775807 : Int64)), .second, .val (.int (ydF y)), .val (.int (pp % (24 : Int32))), .val (.int (ss % (24 : Int32))), .val (.int (tL pp ss)), .val (.long (rdF rate days)), .second, .val (.long (perF rate.toInt64 days.toInt64 (powF N))), .second, .val (.long ((ydF y).toInt64)), .second, .val (.long (centF cc (perF rate.toInt64 days.toInt64 (powF N)))), .second, .unset, .unset, .unset, .unset, .unset, .unset, .unset, .unset, .unset, .unset]) rfl ?_
    refine XS.lload X98.here hx rfl (hb hby at_370) rfl ?_
    refine XS.lload X98.here hx rfl (hb hby at_372) rfl ?_
    refine XS.lmul X98.here hx rfl (hb hby at_374) rfl ?_
    refine XS.lstore X98.here hx rfl (hb hby at_375) rfl (l' := #[.val (.long cc), .second, .val (.int rate), .val (.int days), .val (.int y), .val (.int pp), .val (.int ss), .val (.ref b), .val (.long (9223372036854775807 : Int64)), .second, .val (.int (ydF y)), .val (.int (pp % (24 : Int32))), .val (.int (ss % (24 : Int32))), .val (.int (tL pp ss)), .val (.long (rdF rate days)), .second, .val (.long (perF rate.toInt64 days.toInt64 (powF N))), .second, .val (.long ((ydF y).toInt64)), .second, .val (.long (centF cc (perF rate.toInt64 days.toInt64 (powF N)))), .second, .val (.long ((centF cc (perF rate.toInt64 days.toInt64 (powF N))) * (perF rate.toInt64 days.toInt64 (powF N)))), .second, .unset, .unset, .unset, .unset, .unset, .unset, .unset, .unset]) rfl ?_
    refine XS.lload X98.here hx rfl (hb hby at_377) rfl ?_
    refine XS.lload X98.here hx rfl (hb hby at_379) rfl ?_
    refine XS.ldiv X98.here hx rfl (hb hby at_381) rfl hnz381 ?_
    show Steps p.tables e below (T98.setTop (mkF m 382 #[.val (.long cc), .second, .val (.int rate), .val (.int days), .val (.int y), .val (.int pp), .val (.int ss), .val (.ref b), .val (.long (9223372036854775807 : Int64)), .second, .val (.int (ydF y)), .val (.int (pp % (24 : Int32))), .val (.int (ss % (24 : Int32))), .val (.int (tL pp ss)), .val (.long (rdF rate days)), .second, .val (.long (perF rate.toInt64 days.toInt64 (powF N))), .second, .val (.long ((ydF y).toInt64)), .second, .val (.long (centF cc (perF rate.toInt64 days.toInt64 (powF N)))), .second, .val (.long ((centF cc (perF rate.toInt64 days.toInt64 (powF N))) * (perF rate.toInt64 days.toInt64 (powF N)))), .second, .unset, .unset, .unset, .unset, .unset, .unset, .unset, .unset] [(.long (((centF cc (perF rate.toInt64 days.toInt64 (powF N))) * (perF rate.toInt64 days.toInt64 (powF N))) / ((ydF y).toInt64)))])) _
    refine XS.lstore X98.here hx rfl (hb hby at_382) rfl (l' := #[.val (.long cc), .second, .val (.int rate), .val (.int days), .val (.int y), .val (.int pp), .val (.int ss), .val (.ref b), .val (.long (9223372036854775807 : Int64)), .second, .val (.int (ydF y)), .val (.int (pp % (24 : Int32))), .val (.int (ss % (24 : Int32))), .val (.int (tL pp ss)), .val (.long (rdF rate days)), .second, .val (.long (perF rate.toInt64 days.toInt64 (powF N))), .second, .val (.long ((ydF y).toInt64)), .second, .val (.long (centF cc (perF rate.toInt64 days.toInt64 (powF N)))), .second, .val (.long ((centF cc (perF rate.toInt64 days.toInt64 (powF N))) * (perF rate.toInt64 days.toInt64 (powF N)))), .second, .val (.long (((centF cc (perF rate.toInt64 days.toInt64 (powF N))) * (perF rate.toInt64 days.toInt64 (powF N))) / ((ydF y).toInt64))), .second, .unset, .unset, .unset, .unset, .unset, .unset]) rfl ?_
    refine XS.lload X98.here hx rfl (hb hby at_384) rfl ?_
    refine XS.lload X98.here hx rfl (hb hby at_386) rfl ?_
    refine gwLrem X98.here hx rfl (hb hby at_388) rfl hnz388 ?_
    show Steps p.tables e below (T98.setTop (mkF m 389 #[.val (.long cc), .second, .val (.int rate), .val (.int days), .val (.int y), .val (.int pp), .val (.int ss), .val (.ref b), .val (.long (9223372036854775807 : Int64)), .second, .val (.int (ydF y)), .val (.int (pp % (24 : Int32))), .val (.int (ss % (24 : Int32))), .val (.int (tL pp ss)), .val (.long (rdF rate days)), .second, .val (.long (perF rate.toInt64 days.toInt64 (powF N))), .second, .val (.long ((ydF y).toInt64)), .second, .val (.long (centF cc (perF rate.toInt64 days.toInt64 (powF N)))), .second, .val (.long ((centF cc (perF rate.toInt64 days.toInt64 (powF N))) * (perF rate.toInt64 days.toInt64 (powF N)))), .second, .val (.long (((centF cc (perF rate.toInt64 days.toInt64 (powF N))) * (perF rate.toInt64 days.toInt64 (powF N))) / ((ydF y).toInt64))), .second, .unset, .unset, .unset, .unset, .unset, .unset] [(.long (((centF cc (perF rate.toInt64 days.toInt64 (powF N))) * (perF rate.toInt64 days.toInt64 (powF N))) % ((ydF y).toInt64)))])) _
    refine st99 _ ?_
    refine XS.lstore X99.here hx rfl (hb hby at_392) rfl (l' := #[.val (.long cc), .second, .val (.int rate), .val (.int days), .val (.int y), .val (.int pp), .val (.int ss), .val (.ref b), .val (.long (9223372036854775807 : Int64)), .second, .val (.int (ydF y)), .val (.int (pp % (24 : Int32))), .val (.int (ss % (24 : Int32))), .val (.int (tL pp ss)), .val (.long (rdF rate days)), .second, .val (.long (perF rate.toInt64 days.toInt64 (powF N))), .second, .val (.long ((ydF y).toInt64)), .second, .val (.long (centF cc (perF rate.toInt64 days.toInt64 (powF N)))), .second, .val (.long ((centF cc (perF rate.toInt64 days.toInt64 (powF N))) * (perF rate.toInt64 days.toInt64 (powF N)))), .second, .val (.long (((centF cc (perF rate.toInt64 days.toInt64 (powF N))) * (perF rate.toInt64 days.toInt64 (powF N))) / ((ydF y).toInt64))), .second, .val (.long (absL (((centF cc (perF rate.toInt64 days.toInt64 (powF N))) * (perF rate.toInt64 days.toInt64 (powF N))) % ((ydF y).toInt64)))), .second, .unset, .unset, .unset, .unset]) rfl ?_
    refine XS.lload X99.here hx rfl (hb hby at_394) rfl ?_
    refine XS.lload X99.here hx rfl (hb hby at_396) rfl ?_
    refine XS.lload X99.here hx rfl (hb hby at_398) rfl ?_
    refine XS.lsub X99.here hx rfl (hb hby at_400) rfl ?_
    refine XS.lcmp X99.here hx rfl (hb hby at_401) rfl ?_
    refine XS.ifYes X99.here hx rfl (pc0 := 402) (pc' := 422) rfl (hb hby at_402) rfl ((if0 _ _).trans (tlt hc402).1) (by decide) (by decide) ?_
    show Steps p.tables e below (T99.setTop (mkF m 422 #[.val (.long cc), .second, .val (.int rate), .val (.int days), .val (.int y), .val (.int pp), .val (.int ss), .val (.ref b), .val (.long (9223372036854775807 : Int64)), .second, .val (.int (ydF y)), .val (.int (pp % (24 : Int32))), .val (.int (ss % (24 : Int32))), .val (.int (tL pp ss)), .val (.long (rdF rate days)), .second, .val (.long (perF rate.toInt64 days.toInt64 (powF N))), .second, .val (.long ((ydF y).toInt64)), .second, .val (.long (centF cc (perF rate.toInt64 days.toInt64 (powF N)))), .second, .val (.long ((centF cc (perF rate.toInt64 days.toInt64 (powF N))) * (perF rate.toInt64 days.toInt64 (powF N)))), .second, .val (.long (((centF cc (perF rate.toInt64 days.toInt64 (powF N))) * (perF rate.toInt64 days.toInt64 (powF N))) / ((ydF y).toInt64))), .second, .val (.long (absL (((centF cc (perF rate.toInt64 days.toInt64 (powF N))) * (perF rate.toInt64 days.toInt64 (powF N))) % ((ydF y).toInt64)))), .second, .unset, .unset, .unset, .unset] [])) _
    refine XS.lconst X99.here hx rfl (hb hby at_422) ?_
    refine XS.lstore X99.here hx rfl (hb hby at_423) rfl (l' := #[.val (.long cc), .second, .val (.int rate), .val (.int days), .val (.int y), .val (.int pp), .val (.int ss), .val (.ref b), .val (.long (9223372036854775807 : Int64)), .second, .val (.int (ydF y)), .val (.int (pp % (24 : Int32))), .val (.int (ss % (24 : Int32))), .val (.int (tL pp ss)), .val (.long (rdF rate days)), .second, .val (.long (perF rate.toInt64 days.toInt64 (powF N))), .second, .val (.long ((ydF y).toInt64)), .second, .val (.long (centF cc (perF rate.toInt64 days.toInt64 (powF N)))), .second, .val (.long ((centF cc (perF rate.toInt64 days.toInt64 (powF N))) * (perF rate.toInt64 days.toInt64 (powF N)))), .second, .val (.long (((centF cc (perF rate.toInt64 days.toInt64 (powF N))) * (perF rate.toInt64 days.toInt64 (powF N))) / ((ydF y).toInt64))), .second, .val (.long (absL (((centF cc (perF rate.toInt64 days.toInt64 (powF N))) * (perF rate.toInt64 days.toInt64 (powF N))) % ((ydF y).toInt64)))), .second, .val (.long (0 : Int64)), .second, .unset, .unset]) rfl ?_
    refine XS.lload X99.here hx rfl (hb hby at_425) rfl ?_
    refine XS.lload X99.here hx rfl (hb hby at_427) rfl ?_
    refine XS.ladd X99.here hx rfl (hb hby at_429) rfl ?_
    refine XS.lstore X99.here hx rfl (hb hby at_430) rfl (l' := #[.val (.long cc), .second, .val (.int rate), .val (.int days), .val (.int y), .val (.int pp), .val (.int ss), .val (.ref b), .val (.long (9223372036854775807 : Int64)), .second, .val (.int (ydF y)), .val (.int (pp % (24 : Int32))), .val (.int (ss % (24 : Int32))), .val (.int (tL pp ss)), .val (.long (rdF rate days)), .second, .val (.long (perF rate.toInt64 days.toInt64 (powF N))), .second, .val (.long ((ydF y).toInt64)), .second, .val (.long (centF cc (perF rate.toInt64 days.toInt64 (powF N)))), .second, .val (.long ((centF cc (perF rate.toInt64 days.toInt64 (powF N))) * (perF rate.toInt64 days.toInt64 (powF N)))), .second, .val (.long (((centF cc (perF rate.toInt64 days.toInt64 (powF N))) * (perF rate.toInt64 days.toInt64 (powF N))) / ((ydF y).toInt64))), .second, .val (.long (absL (((centF cc (perF rate.toInt64 days.toInt64 (powF N))) * (perF rate.toInt64 days.toInt64 (powF N))) % ((ydF y).toInt64)))), .second, .val (.long (0 : Int64)), .second, .val (.long ((((centF cc (perF rate.toInt64 days.toInt64 (powF N))) * (perF rate.toInt64 days.toInt64 (powF N))) / ((ydF y).toInt64)) + (0 : Int64))), .second]) rfl ?_
    refine XS.lload X99.here hx rfl (hb hby at_432) rfl ?_
    refine XS.iloadN X99.here hx rfl (hb hby at_434) rfl ?_
    show Steps p.tables e below (T99.setTop (mkF m 435 #[.val (.long cc), .second, .val (.int rate), .val (.int days), .val (.int y), .val (.int pp), .val (.int ss), .val (.ref b), .val (.long (9223372036854775807 : Int64)), .second, .val (.int (ydF y)), .val (.int (pp % (24 : Int32))), .val (.int (ss % (24 : Int32))), .val (.int (tL pp ss)), .val (.long (rdF rate days)), .second, .val (.long (perF rate.toInt64 days.toInt64 (powF N))), .second, .val (.long ((ydF y).toInt64)), .second, .val (.long (centF cc (perF rate.toInt64 days.toInt64 (powF N)))), .second, .val (.long ((centF cc (perF rate.toInt64 days.toInt64 (powF N))) * (perF rate.toInt64 days.toInt64 (powF N)))), .second, .val (.long (((centF cc (perF rate.toInt64 days.toInt64 (powF N))) * (perF rate.toInt64 days.toInt64 (powF N))) / ((ydF y).toInt64))), .second, .val (.long (absL (((centF cc (perF rate.toInt64 days.toInt64 (powF N))) * (perF rate.toInt64 days.toInt64 (powF N))) % ((ydF y).toInt64)))), .second, .val (.long (0 : Int64)), .second, .val (.long ((((centF cc (perF rate.toInt64 days.toInt64 (powF N))) * (perF rate.toInt64 days.toInt64 (powF N))) / ((ydF y).toInt64)) + (0 : Int64))), .second] [(.int rate), (.long (centF cc (perF rate.toInt64 days.toInt64 (powF N))))])) _
    refine XS.i2l X99.here hx rfl (hb hby at_435) rfl ?_
    refine XS.iload X99.here hx rfl (hb hby at_436) rfl ?_
    refine XS.iloadN X99.here hx rfl (hb hby at_438) rfl ?_
    refine XS.i2l X99.here hx rfl (hb hby at_439) rfl ?_
    refine XS.iload X99.here hx rfl (hb hby at_440) rfl ?_
    refine XS.iload X99.here hx rfl (hb hby at_442) rfl ?_
    show Steps p.tables e below (T99.setTop (mkF m 444 #[.val (.long cc), .second, .val (.int rate), .val (.int days), .val (.int y), .val (.int pp), .val (.int ss), .val (.ref b), .val (.long (9223372036854775807 : Int64)), .second, .val (.int (ydF y)), .val (.int (pp % (24 : Int32))), .val (.int (ss % (24 : Int32))), .val (.int (tL pp ss)), .val (.long (rdF rate days)), .second, .val (.long (perF rate.toInt64 days.toInt64 (powF N))), .second, .val (.long ((ydF y).toInt64)), .second, .val (.long (centF cc (perF rate.toInt64 days.toInt64 (powF N)))), .second, .val (.long ((centF cc (perF rate.toInt64 days.toInt64 (powF N))) * (perF rate.toInt64 days.toInt64 (powF N)))), .second, .val (.long (((centF cc (perF rate.toInt64 days.toInt64 (powF N))) * (perF rate.toInt64 days.toInt64 (powF N))) / ((ydF y).toInt64))), .second, .val (.long (absL (((centF cc (perF rate.toInt64 days.toInt64 (powF N))) * (perF rate.toInt64 days.toInt64 (powF N))) % ((ydF y).toInt64)))), .second, .val (.long (0 : Int64)), .second, .val (.long ((((centF cc (perF rate.toInt64 days.toInt64 (powF N))) * (perF rate.toInt64 days.toInt64 (powF N))) / ((ydF y).toInt64)) + (0 : Int64))), .second] [(.int (pp % (24 : Int32))), (.int (ydF y)), (.long (days.toInt64)), (.int (ss % (24 : Int32))), (.long (rate.toInt64)), (.long (centF cc (perF rate.toInt64 days.toInt64 (powF N))))])) _
    refine st100 _ ?_
    refine XS.lload X100.here hx rfl (hb hby at_447) rfl ?_
    refine XS.lcmp X100.here hx rfl (hb hby at_449) rfl ?_
    refine XS.ifNo X100.here hx rfl (hb hby at_450) rfl ((if0 _ _).trans (teq hc450).2) ?_
    refine XS.iconst X100.here hx rfl (hb hby at_453) ?_
    refine XS.goto X100.here hx rfl (pc0 := 454) (pc' := 458) rfl (hb hby at_454) (by decide) (by decide) ?_
    show Steps p.tables e below (T100.setTop (mkF m 458 #[.val (.long cc), .second, .val (.int rate), .val (.int days), .val (.int y), .val (.int pp), .val (.int ss), .val (.ref b), .val (.long (9223372036854775807 : Int64)), .second, .val (.int (ydF y)), .val (.int (pp % (24 : Int32))), .val (.int (ss % (24 : Int32))), .val (.int (tL pp ss)), .val (.long (rdF rate days)), .second, .val (.long (perF rate.toInt64 days.toInt64 (powF N))), .second, .val (.long ((ydF y).toInt64)), .second, .val (.long (centF cc (perF rate.toInt64 days.toInt64 (powF N)))), .second, .val (.long ((centF cc (perF rate.toInt64 days.toInt64 (powF N))) * (perF rate.toInt64 days.toInt64 (powF N)))), .second, .val (.long (((centF cc (perF rate.toInt64 days.toInt64 (powF N))) * (perF rate.toInt64 days.toInt64 (powF N))) / ((ydF y).toInt64))), .second, .val (.long (absL (((centF cc (perF rate.toInt64 days.toInt64 (powF N))) * (perF rate.toInt64 days.toInt64 (powF N))) % ((ydF y).toInt64)))), .second, .val (.long (0 : Int64)), .second, .val (.long ((((centF cc (perF rate.toInt64 days.toInt64 (powF N))) * (perF rate.toInt64 days.toInt64 (powF N))) / ((ydF y).toInt64)) + (0 : Int64))), .second] [(.int (1 : Int32))])) _
    exact retN X100 hx (t := .boolean) Bd.returns (by simp) (hb hby at_458) hr
  · show Q0  h0 n0 _ T100.heap _
    exact ⟨rfl, N100⟩
set_option maxRecDepth 65536 in
set_option maxHeartbeats 40000000 in
theorem rm0_P1 (l : Launch) (Z : State) (a0 : Array Value) (hw : ∀ d ∈ tables_1, d.before a0 Z = true) (ws : List Jvm.Cond) (cc : Int64) (rate : Int32) (days : Int32) (y : Int32) (pp : Int32) (ss : Int32) (N : Nat) (h0 : Heap) (n0 : Nat) (Z0 : n0 ≤ h0.size) (hj : (tL pp ss) = Int32.ofNat N) (hj1 : N < 19) (hc174 : ¬ ((18 : Int32) < (tL pp ss))) (hc181 : ¬ ((tL pp ss) < (-18 : Int32))) (hc220 : (0 : Int32) < (tL pp ss)) (hnz235 : ¬ ((powF N) = (0 : Int64))) (hc237 : ¬ ((0 : Int32) < (lcmpW (absL (rdF rate days)) ((9223372036854775807 : Int64) / (powF N))))) (hc351 : ¬ ((lcmpW (perF rate.toInt64 days.toInt64 (powF N)) (0 : Int64)) = (0 : Int32))) (hnz366 : ¬ ((absL (perF rate.toInt64 days.toInt64 (powF N))) = (0 : Int64))) (hnz367 : ¬ (((9223372036854775807 : Int64) / (absL (perF rate.toInt64 days.toInt64 (powF N)))) = (0 : Int64))) (hnz381 : ¬ (((ydF y).toInt64) = (0 : Int64))) (hnz388 : ¬ (((ydF y).toInt64) = (0 : Int64))) (hc402 : ¬ ((lcmpW (absL (((centF cc (perF rate.toInt64 days.toInt64 (powF N))) * (perF rate.toInt64 days.toInt64 (powF N))) % ((ydF y).toInt64))) (((ydF y).toInt64) - (absL (((centF cc (perF rate.toInt64 days.toInt64 (powF N))) * (perF rate.toInt64 days.toInt64 (powF N))) % ((ydF y).toInt64))))) < (0 : Int32))) (hc409 : (0 : Int32) < (lcmpW ((centF cc (perF rate.toInt64 days.toInt64 (powF N))) * (perF rate.toInt64 days.toInt64 (powF N))) (0 : Int64))) (hN : absI (tA (pp % (24 : Int32)) (ss % (24 : Int32))) = Int32.ofNat N) (hN1 : N < 100) (fhc18 : ¬ ((18 : Int32) < (absI (tA (pp % (24 : Int32)) (ss % (24 : Int32)))))) (fhc37 : (0 : Int32) < (tA (pp % (24 : Int32)) (ss % (24 : Int32)))) (fhc50 : (0 : Int32) < (tA (pp % (24 : Int32)) (ss % (24 : Int32)))) (fhc67 : ¬ ((proF (rate.toInt64) (days.toInt64)) = (0 : Int32))) (fhc79 : ¬ ((proF ((rate.toInt64) * (days.toInt64)) (powF N)) = (0 : Int32))) (fhc90 : ¬ ((proF ((ydF y).toInt64) (1 : Int64)) = (0 : Int32))) (fhnz118 : ¬ ((divF (ydF y) (1 : Int64)) = (0 : Int64))) (fhnz125 : ¬ ((divF (ydF y) (1 : Int64)) = (0 : Int64))) (fhc134 : ¬ ((proF (centF cc (perF rate.toInt64 days.toInt64 (powF N))) ((perF (rate.toInt64) (days.toInt64) (powF N)) / (divF (ydF y) (1 : Int64)))) = (0 : Int32))) (fhc143 : ¬ ((proF (centF cc (perF rate.toInt64 days.toInt64 (powF N))) ((perF (rate.toInt64) (days.toInt64) (powF N)) % (divF (ydF y) (1 : Int64)))) = (0 : Int32))) (fhnz162 : ¬ ((divF (ydF y) (1 : Int64)) = (0 : Int64))) (fhnz171 : ¬ ((divF (ydF y) (1 : Int64)) = (0 : Int64))) (fhc185 : ¬ ((lcmpW (remF (centF cc (perF rate.toInt64 days.toInt64 (powF N))) ((perF (rate.toInt64) (days.toInt64) (powF N)) % (divF (ydF y) (1 : Int64))) (divF (ydF y) (1 : Int64))) ((divF (ydF y) (1 : Int64)) - (remF (centF cc (perF rate.toInt64 days.toInt64 (powF N))) ((perF (rate.toInt64) (days.toInt64) (powF N)) % (divF (ydF y) (1 : Int64))) (divF (ydF y) (1 : Int64))))) < (0 : Int32))) (fhc212 : ¬ ((sumF ((centF cc (perF rate.toInt64 days.toInt64 (powF N))) * ((perF (rate.toInt64) (days.toInt64) (powF N)) / (divF (ydF y) (1 : Int64)))) (((centF cc (perF rate.toInt64 days.toInt64 (powF N))) * ((perF (rate.toInt64) (days.toInt64) (powF N)) % (divF (ydF y) (1 : Int64)))) / (divF (ydF y) (1 : Int64)))) = (0 : Int32))) (fhc225 : ¬ ((sumF (((centF cc (perF rate.toInt64 days.toInt64 (powF N))) * ((perF (rate.toInt64) (days.toInt64) (powF N)) / (divF (ydF y) (1 : Int64)))) + (((centF cc (perF rate.toInt64 days.toInt64 (powF N))) * ((perF (rate.toInt64) (days.toInt64) (powF N)) % (divF (ydF y) (1 : Int64)))) / (divF (ydF y) (1 : Int64)))) (rupF (centF cc (perF rate.toInt64 days.toInt64 (powF N))) (perF (rate.toInt64) (days.toInt64) (powF N)))) = (0 : Int32))) (hc450 : (lcmpW (sum3 ((centF cc (perF rate.toInt64 days.toInt64 (powF N))) * ((perF (rate.toInt64) (days.toInt64) (powF N)) / (divF (ydF y) (1 : Int64)))) (((centF cc (perF rate.toInt64 days.toInt64 (powF N))) * ((perF (rate.toInt64) (days.toInt64) (powF N)) % (divF (ydF y) (1 : Int64)))) / (divF (ydF y) (1 : Int64))) (rupF (centF cc (perF rate.toInt64 days.toInt64 (powF N))) (perF (rate.toInt64) (days.toInt64) (powF N)))) ((((centF cc (perF rate.toInt64 days.toInt64 (powF N))) * (perF rate.toInt64 days.toInt64 (powF N))) / ((ydF y).toInt64)) + (1 : Int64))) = (0 : Int32)) :
    MetFree l x (head1 (Jvm.Cond.code x code maxLocals ret :: ws) room_1) (fun aa U => aa = #[(.long cc), (.int rate), (.int days), (.int y), (.int pp), (.int ss)] ∧ Z.Warmed39 U.vm ∧ U.heap = h0) (fun _ _ _ _ _ => True) (fun _ U o U' => ∃ v L, o = .returned v ∧ Q0  h0 n0 v U'.heap L ∧ FrameEnd U o U' L room_1.cells room_1.slots) := by
  refine MetFree.of_bodySF (plainFor_of_name pn_0) hisR ?_
  intro p e s m args below meth c s₁ Bd hml0 hP hK
  obtain ⟨rfl, hZ, hh⟩ := hP
  have hx := Bd.exec
  have hby := Bd.bytes
  have hml : c.maxLocals = 32 := hml0
  have hown : s.vm.findClass "com/example/syndicata/syndicata/AccrualAccruedUnitsPinLaw" = some m.cls := findClass_of_methodNamed Bd.named
  have hnm := (name_of_methodNamed Bd.named Bd.method).1
  have X0 : Stand p l e room_1 s m #[(.long cc), (.int rate), (.int days), (.int y), (.int pp), (.int ss)] below meth c s₁ [] 0 0 := Stand.of_body Bd
  have e0 : s₁.heap = h0 := by rw [← hh, Bd.state]; rfl
  have N0 := Fr.nil n0
  have pre0 : ∀ zz, Steps p.tables e below (s₁.setTop (mkF m 0 #[.val (.long cc), .second, .val (.int rate), .val (.int days), .val (.int y), .val (.int pp), .val (.int ss), .unset, .unset, .unset, .unset, .unset, .unset, .unset, .unset, .unset, .unset, .unset, .unset, .unset, .unset, .unset, .unset, .unset, .unset, .unset, .unset, .unset, .unset, .unset, .unset, .unset] [])) zz → Steps p.tables e below (s₁.setTop (entryFrame m #[(.long cc), (.int rate), (.int days), (.int y), (.int pp), (.int ss)] maxLocals)) zz := fun zz k => castTop (ef_0 m cc rate days y pp ss) k
  obtain ⟨Tf, hf1, b, kk, locs1, Xf, ef, Zf, Vf, Nf, stf⟩ := fill0 (n0 := n0) cc rate days y pp ss X0 hx hZ hw hby hown e0 Z0
  obtain ⟨cl, Ar, q_, S_, N_, H_, G_⟩ := Vf
  have hjc : ((tL pp ss)).toNatClampNeg = N := by rw [hj]; exact ofNat_clamp (by omega)
  have hsz : cl.slots.size = 19 := S_
  have hin : ¬ ((tL pp ss) < 0 ∨ cl.slots.size ≤ ((tL pp ss)).toNatClampNeg) := by rw [hjc, hsz]; exact fun q => q.elim (by rw [hj]; exact ofNat_nn (by omega)) (fun q => absurd q (by omega))
  have hat : cl.slots[((tL pp ss)).toNatClampNeg]? = some (.long (powF N)) := by rw [hjc, H_ N (by omega), tens_at N hj1]
  obtain ⟨_, _, ⟨T101, L101, k101, n101⟩, -, X101, ⟨Lc101, hQ101, l101, y101, z101⟩, st101⟩ := Jvm.LawKit.callS Xf hx (y := (⟨"java/lang/Math", "max", "(II)I"⟩ : MethodName)) hown (mvT hZ (hw _ (List.mem_of_getElem? (i := 21) rfl))) (mvT hZ (hw _ (List.mem_of_getElem? (i := 22) rfl))) (mvT hZ (hw _ (List.mem_of_getElem? (i := 23) rfl))) (mvT hZ (hw _ (List.mem_of_getElem? (i := 24) rfl))) (by decide) (backOf (W := 0) (rm1 l Z a0 hw [] (1 : Int32) (y &&& (2147483647 : Int32)) hf1 n0 Zf) hZ (hw _ (List.mem_of_getElem? (i := 24) rfl)) (hw _ (List.mem_of_getElem? (i := 23) rfl)) (by decide) (by decide)) (g := (mkF m 142 #[.val (.long cc), .second, .val (.int rate), .val (.int days), .val (.int y), .val (.int pp), .val (.int ss), .val (.ref b), .val (.long (9223372036854775807 : Int64)), .second, .unset, .unset, .unset, .unset, .unset, .unset, .unset, .unset, .unset, .unset, .unset, .unset, .unset, .unset, .unset, .unset, .unset, .unset, .unset, .unset, .unset, .unset] [(.int (y &&& (2147483647 : Int32))), (.int (1 : Int32))])) rfl (by rw [hml]; rfl) (argsL := [(.int (1 : Int32)), (.int (y &&& (2147483647 : Int32)))]) (rest := []) (lenOf pd_0 rfl) rfl (by show 2 * 0 + _ ≤ _; exact Nat.le_of_eq rfl) (hb hby at_142) (fun _ _ => ⟨rfl, ef, (by decide : 1 + 0 ≤ _), (by decide : 19 + 0 ≤ _)⟩)
  dsimp only [Pt.U, Pt.locs, Pt.cells, Pt.slots] at X101 l101 y101 z101 st101 hQ101
  subst l101 y101 z101
  obtain ⟨rfl, N101q, e101⟩ := hQ101
  have N101 := Fr.app Nf N101q
  obtain ⟨_, _, ⟨T102, L102, k102, n102⟩, -, X102, ⟨Lc102, hQ102, l102, y102, z102⟩, st102⟩ := Jvm.LawKit.callS X101 hx (y := (⟨"java/lang/Math", "abs", "(J)J"⟩ : MethodName)) hown (mvT hZ (hw _ (List.mem_of_getElem? (i := 25) rfl))) (mvT hZ (hw _ (List.mem_of_getElem? (i := 26) rfl))) (mvT hZ (hw _ (List.mem_of_getElem? (i := 23) rfl))) (mvT hZ (hw _ (List.mem_of_getElem? (i := 27) rfl))) (by decide) (backOf (W := 0) (rm2 l Z a0 hw [] (rdF rate days) hf1 n0 Zf) hZ (hw _ (List.mem_of_getElem? (i := 27) rfl)) (hw _ (List.mem_of_getElem? (i := 23) rfl)) (by decide) (by decide)) (g := (mkF m 225 #[.val (.long cc), .second, .val (.int rate), .val (.int days), .val (.int y), .val (.int pp), .val (.int ss), .val (.ref b), .val (.long (9223372036854775807 : Int64)), .second, .val (.int (ydF y)), .val (.int (pp % (24 : Int32))), .val (.int (ss % (24 : Int32))), .val (.int (tL pp ss)), .val (.long (rdF rate days)), .second, .unset, .unset, .unset, .unset, .unset, .unset, .unset, .unset, .unset, .unset, .unset, .unset, .unset, .unset, .unset, .unset] [(.long (rdF rate days))])) rfl (by rw [hml]; rfl) (argsL := [(.long (rdF rate days))]) (rest := []) (lenOf pd_1 rfl) rfl (by show 2 * 0 + _ ≤ _; exact Nat.le_of_eq rfl) (hb hby at_225) (fun _ _ => ⟨rfl, e101, (by decide : 1 + 0 ≤ _), (by decide : 19 + 0 ≤ _)⟩)
  dsimp only [Pt.U, Pt.locs, Pt.cells, Pt.slots] at X102 l102 y102 z102 st102 hQ102
  subst l102 y102 z102
  obtain ⟨rfl, N102q, e102⟩ := hQ102
  have N102 := Fr.app N101 N102q
  obtain ⟨_, _, ⟨T103, L103, k103, n103⟩, -, X103, ⟨Lc103, hQ103, l103, y103, z103⟩, st103⟩ := Jvm.LawKit.callS X102 hx (y := (⟨"java/lang/Math", "abs", "(J)J"⟩ : MethodName)) hown (mvT hZ (hw _ (List.mem_of_getElem? (i := 25) rfl))) (mvT hZ (hw _ (List.mem_of_getElem? (i := 26) rfl))) (mvT hZ (hw _ (List.mem_of_getElem? (i := 23) rfl))) (mvT hZ (hw _ (List.mem_of_getElem? (i := 27) rfl))) (by decide) (backOf (W := 4) (rm2 l Z a0 hw [] (perF rate.toInt64 days.toInt64 (powF N)) hf1 n0 Zf) hZ (hw _ (List.mem_of_getElem? (i := 27) rfl)) (hw _ (List.mem_of_getElem? (i := 23) rfl)) (by decide) (by decide)) (g := (mkF m 363 #[.val (.long cc), .second, .val (.int rate), .val (.int days), .val (.int y), .val (.int pp), .val (.int ss), .val (.ref b), .val (.long (9223372036854775807 : Int64)), .second, .val (.int (ydF y)), .val (.int (pp % (24 : Int32))), .val (.int (ss % (24 : Int32))), .val (.int (tL pp ss)), .val (.long (rdF rate days)), .second, .val (.long (perF rate.toInt64 days.toInt64 (powF N))), .second, .val (.long ((ydF y).toInt64)), .second, .unset, .unset, .unset, .unset, .unset, .unset, .unset, .unset, .unset, .unset, .unset, .unset] [(.long (perF rate.toInt64 days.toInt64 (powF N))), (.long (9223372036854775807 : Int64)), (.long cc)])) rfl (by rw [hml]; rfl) (argsL := [(.long (perF rate.toInt64 days.toInt64 (powF N)))]) (rest := [(.long (9223372036854775807 : Int64)), (.long cc)]) (lenOf pd_1 rfl) rfl (by show 2 * 0 + _ ≤ _; exact Nat.le_of_eq rfl) (hb hby at_363) (fun _ _ => ⟨rfl, e102, (by decide : 1 + 0 ≤ _), (by decide : 19 + 0 ≤ _)⟩)
  dsimp only [Pt.U, Pt.locs, Pt.cells, Pt.slots] at X103 l103 y103 z103 st103 hQ103
  subst l103 y103 z103
  obtain ⟨rfl, N103q, e103⟩ := hQ103
  have N103 := Fr.app N102 N103q
  obtain ⟨_, _, ⟨T104, L104, k104, n104⟩, -, X104, ⟨Lc104, hQ104, l104, y104, z104⟩, st104⟩ := Jvm.LawKit.callS X103 hx (y := (⟨"java/lang/Math", "abs", "(J)J"⟩ : MethodName)) hown (mvT hZ (hw _ (List.mem_of_getElem? (i := 25) rfl))) (mvT hZ (hw _ (List.mem_of_getElem? (i := 26) rfl))) (mvT hZ (hw _ (List.mem_of_getElem? (i := 23) rfl))) (mvT hZ (hw _ (List.mem_of_getElem? (i := 27) rfl))) (by decide) (backOf (W := 0) (rm2 l Z a0 hw [] (((centF cc (perF rate.toInt64 days.toInt64 (powF N))) * (perF rate.toInt64 days.toInt64 (powF N))) % ((ydF y).toInt64)) hf1 n0 Zf) hZ (hw _ (List.mem_of_getElem? (i := 27) rfl)) (hw _ (List.mem_of_getElem? (i := 23) rfl)) (by decide) (by decide)) (g := (mkF m 389 #[.val (.long cc), .second, .val (.int rate), .val (.int days), .val (.int y), .val (.int pp), .val (.int ss), .val (.ref b), .val (.long (9223372036854775807 : Int64)), .second, .val (.int (ydF y)), .val (.int (pp % (24 : Int32))), .val (.int (ss % (24 : Int32))), .val (.int (tL pp ss)), .val (.long (rdF rate days)), .second, .val (.long (perF rate.toInt64 days.toInt64 (powF N))), .second, .val (.long ((ydF y).toInt64)), .second, .val (.long (centF cc (perF rate.toInt64 days.toInt64 (powF N)))), .second, .val (.long ((centF cc (perF rate.toInt64 days.toInt64 (powF N))) * (perF rate.toInt64 days.toInt64 (powF N)))), .second, .val (.long (((centF cc (perF rate.toInt64 days.toInt64 (powF N))) * (perF rate.toInt64 days.toInt64 (powF N))) / ((ydF y).toInt64))), .second, .unset, .unset, .unset, .unset, .unset, .unset] [(.long (((centF cc (perF rate.toInt64 days.toInt64 (powF N))) * (perF rate.toInt64 days.toInt64 (powF N))) % ((ydF y).toInt64)))])) rfl (by rw [hml]; rfl) (argsL := [(.long (((centF cc (perF rate.toInt64 days.toInt64 (powF N))) * (perF rate.toInt64 days.toInt64 (powF N))) % ((ydF y).toInt64)))]) (rest := []) (lenOf pd_1 rfl) rfl (by show 2 * 0 + _ ≤ _; exact Nat.le_of_eq rfl) (hb hby at_389) (fun _ _ => ⟨rfl, e103, (by decide : 1 + 0 ≤ _), (by decide : 19 + 0 ≤ _)⟩)
  dsimp only [Pt.U, Pt.locs, Pt.cells, Pt.slots] at X104 l104 y104 z104 st104 hQ104
  subst l104 y104 z104
  obtain ⟨rfl, N104q, e104⟩ := hQ104
  have N104 := Fr.app N103 N104q
  obtain ⟨_, _, ⟨T105, L105, k105, n105⟩, -, X105, ⟨Lc105, hQ105, l105, y105, z105⟩, st105⟩ := Jvm.LawKit.callS X104 hx (y := (⟨"com/example/syndicata/syndicata/Accrual", "accruedUnits", "(JJIJII)J"⟩ : MethodName)) hown (mvT hZ (hw _ (List.mem_of_getElem? (i := 28) rfl))) (mvT hZ (hw _ (List.mem_of_getElem? (i := 29) rfl))) (mvT hZ (hw _ (List.mem_of_getElem? (i := 30) rfl))) (mvT hZ (hw _ (List.mem_of_getElem? (i := 31) rfl))) (by decide) (backOf (W := 0) (rm3_P1 l Z a0 hw [] (centF cc (perF rate.toInt64 days.toInt64 (powF N))) (rate.toInt64) (ss % (24 : Int32)) (days.toInt64) (ydF y) (pp % (24 : Int32)) N hf1 n0 Zf hN hN1 fhc18 fhc37 fhc50 fhc67 fhc79 fhc90 fhnz118 fhnz125 fhc134 fhc143 fhnz162 fhnz171 fhc185 fhc212 fhc225) hZ (hw _ (List.mem_of_getElem? (i := 31) rfl)) (hw _ (List.mem_of_getElem? (i := 30) rfl)) (by decide) (by decide)) (g := (mkF m 444 #[.val (.long cc), .second, .val (.int rate), .val (.int days), .val (.int y), .val (.int pp), .val (.int ss), .val (.ref b), .val (.long (9223372036854775807 : Int64)), .second, .val (.int (ydF y)), .val (.int (pp % (24 : Int32))), .val (.int (ss % (24 : Int32))), .val (.int (tL pp ss)), .val (.long (rdF rate days)), .second, .val (.long (perF rate.toInt64 days.toInt64 (powF N))), .second, .val (.long ((ydF y).toInt64)), .second, .val (.long (centF cc (perF rate.toInt64 days.toInt64 (powF N)))), .second, .val (.long ((centF cc (perF rate.toInt64 days.toInt64 (powF N))) * (perF rate.toInt64 days.toInt64 (powF N)))), .second, .val (.long (((centF cc (perF rate.toInt64 days.toInt64 (powF N))) * (perF rate.toInt64 days.toInt64 (powF N))) / ((ydF y).toInt64))), .second, .val (.long (absL (((centF cc (perF rate.toInt64 days.toInt64 (powF N))) * (perF rate.toInt64 days.toInt64 (powF N))) % ((ydF y).toInt64)))), .second, .val (.long (1 : Int64)), .second, .val (.long ((((centF cc (perF rate.toInt64 days.toInt64 (powF N))) * (perF rate.toInt64 days.toInt64 (powF N))) / ((ydF y).toInt64)) + (1 : Int64))), .second] [(.int (pp % (24 : Int32))), (.int (ydF y)), (.long (days.toInt64)), (.int (ss % (24 : Int32))), (.long (rate.toInt64)), (.long (centF cc (perF rate.toInt64 days.toInt64 (powF N))))])) rfl (by rw [hml]; rfl) (argsL := [(.long (centF cc (perF rate.toInt64 days.toInt64 (powF N)))), (.long (rate.toInt64)), (.int (ss % (24 : Int32))), (.long (days.toInt64)), (.int (ydF y)), (.int (pp % (24 : Int32)))]) (rest := []) (lenOf pd_2 rfl) rfl (by show 2 * 0 + _ ≤ _; exact Nat.le_of_eq rfl) (hb hby at_444) (fun _ _ => ⟨rfl, e104, (by decide : 1 + 0 ≤ _), (by decide : 19 + 0 ≤ _)⟩)
  dsimp only [Pt.U, Pt.locs, Pt.cells, Pt.slots] at X105 l105 y105 z105 st105 hQ105
  subst l105 y105 z105
  obtain ⟨rfl, N105q, e105⟩ := hQ105
  have N105 := Fr.app N104 N105q
  obtain ⟨fs, hr, hrun, hended, hW, hsame⟩ := X105.leave (v := some (.int (1 : Int32))) (fun h => by rw [Bd.returns] at h; cases h)
  refine ⟨_, _, pre0 _ ?_, hrun, hended, _, _, rfl, ?_, ⟨_, rfl⟩, hW, hsame.mono (by decide) (by decide)⟩
  · show Steps p.tables e below (s₁.setTop (mkF m 0 #[.val (.long cc), .second, .val (.int rate), .val (.int days), .val (.int y), .val (.int pp), .val (.int ss), .unset, .unset, .unset, .unset, .unset, .unset, .unset, .unset, .unset, .unset, .unset, .unset, .unset, .unset, .unset, .unset, .unset, .unset, .unset, .unset, .unset, .unset, .unset, .unset, .unset] [])) _
    refine stf _ ?_
    show Steps p.tables e below (Tf.setTop (mkF m 131 #[.val (.long cc), .second, .val (.int rate), .val (.int days), .val (.int y), .val (.int pp), .val (.int ss), .val (.ref b), .unset, .unset, .unset, .unset, .unset, .unset, .unset, .unset, .unset, .unset, .unset, .unset, .unset, .unset, .unset, .unset, .unset, .unset, .unset, .unset, .unset, .unset, .unset, .unset] [])) _
    refine Xf.ldc2Long hx hown (mvT hZ (hw _ (List.mem_of_getElem? (i := 19) rfl))) (g := (mkF m 131 #[.val (.long cc), .second, .val (.int rate), .val (.int days), .val (.int y), .val (.int pp), .val (.int ss), .val (.ref b), .unset, .unset, .unset, .unset, .unset, .unset, .unset, .unset, .unset, .unset, .unset, .unset, .unset, .unset, .unset, .unset, .unset, .unset, .unset, .unset, .unset, .unset, .unset, .unset] [])) rfl (hb hby at_131) _ ?_
    refine XS.lstore Xf.here hx rfl (hb hby at_134) rfl (l' := #[.val (.long cc), .second, .val (.int rate), .val (.int days), .val (.int y), .val (.int pp), .val (.int ss), .val (.ref b), .val (.long (9223372036854775807 : Int64)), .second, .unset, .unset, .unset, .unset, .unset, .unset, .unset, .unset, .unset, .unset, .unset, .unset, .unset, .unset, .unset, .unset, .unset, .unset, .unset, .unset, .unset, .unset]) rfl ?_
    refine XS.iconst Xf.here hx rfl (hb hby at_136) ?_
    refine XS.iload Xf.here hx rfl (hb hby at_137) rfl ?_
    refine Xf.ldcInt hx hown (mvT hZ (hw _ (List.mem_of_getElem? (i := 20) rfl))) (g := (mkF m 139 #[.val (.long cc), .second, .val (.int rate), .val (.int days), .val (.int y), .val (.int pp), .val (.int ss), .val (.ref b), .val (.long (9223372036854775807 : Int64)), .second, .unset, .unset, .unset, .unset, .unset, .unset, .unset, .unset, .unset, .unset, .unset, .unset, .unset, .unset, .unset, .unset, .unset, .unset, .unset, .unset, .unset, .unset] [(.int y), (.int (1 : Int32))])) rfl (hb hby at_139) _ ?_
    refine XS.iand Xf.here hx rfl (hb hby at_141) rfl ?_
    show Steps p.tables e below (Tf.setTop (mkF m 142 #[.val (.long cc), .second, .val (.int rate), .val (.int days), .val (.int y), .val (.int pp), .val (.int ss), .val (.ref b), .val (.long (9223372036854775807 : Int64)), .second, .unset, .unset, .unset, .unset, .unset, .unset, .unset, .unset, .unset, .unset, .unset, .unset, .unset, .unset, .unset, .unset, .unset, .unset, .unset, .unset, .unset, .unset] [(.int (y &&& (2147483647 : Int32))), (.int (1 : Int32))])) _
    refine st101 _ ?_
    show Steps p.tables e below (T101.setTop (mkF m 145 #[.val (.long cc), .second, .val (.int rate), .val (.int days), .val (.int y), .val (.int pp), .val (.int ss), .val (.ref b), .val (.long (9223372036854775807 : Int64)), .second, .unset, .unset, .unset, .unset, .unset, .unset, .unset, .unset, .unset, .unset, .unset, .unset, .unset, .unset, .unset, .unset, .unset, .unset, .unset, .unset, .unset, .unset] [(.int (ydF y))])) _
    refine XS.istore X101.here hx rfl (hb hby at_145) rfl (l' := #[.val (.long cc), .second, .val (.int rate), .val (.int days), .val (.int y), .val (.int pp), .val (.int ss), .val (.ref b), .val (.long (9223372036854775807 : Int64)), .second, .val (.int (ydF y)), .unset, .unset, .unset, .unset, .unset, .unset, .unset, .unset, .unset, .unset, .unset, .unset, .unset, .unset, .unset, .unset, .unset, .unset, .unset, .unset, .unset]) rfl ?_
    refine XS.iload X101.here hx rfl (hb hby at_147) rfl ?_
    refine XS.bipush X101.here hx rfl (hb hby at_149) ?_
    refine gwIrem X101.here hx rfl (hb hby at_151) rfl (by decide : ¬ ((24 : Int32) = (0 : Int32))) ?_
    refine XS.istore X101.here hx rfl (hb hby at_152) rfl (l' := #[.val (.long cc), .second, .val (.int rate), .val (.int days), .val (.int y), .val (.int pp), .val (.int ss), .val (.ref b), .val (.long (9223372036854775807 : Int64)), .second, .val (.int (ydF y)), .val (.int (pp % (24 : Int32))), .unset, .unset, .unset, .unset, .unset, .unset, .unset, .unset, .unset, .unset, .unset, .unset, .unset, .unset, .unset, .unset, .unset, .unset, .unset, .unset]) rfl ?_
    refine XS.iload X101.here hx rfl (hb hby at_154) rfl ?_
    refine XS.bipush X101.here hx rfl (hb hby at_156) ?_
    refine gwIrem X101.here hx rfl (hb hby at_158) rfl (by decide : ¬ ((24 : Int32) = (0 : Int32))) ?_
    show Steps p.tables e below (T101.setTop (mkF m 159 #[.val (.long cc), .second, .val (.int rate), .val (.int days), .val (.int y), .val (.int pp), .val (.int ss), .val (.ref b), .val (.long (9223372036854775807 : Int64)), .second, .val (.int (ydF y)), .val (.int (pp % (24 : Int32))), .unset, .unset, .unset, .unset, .unset, .unset, .unset, .unset, .unset, .unset, .unset, .unset, .unset, .unset, .unset, .unset, .unset, .unset, .unset, .unset] [(.int (ss % (24 : Int32)))])) _
    refine XS.istore X101.here hx rfl (hb hby at_159) rfl (l' := #[.val (.long cc), .second, .val (.int rate), .val (.int days), .val (.int y), .val (.int pp), .val (.int ss), .val (.ref b), .val (.long (9223372036854775807 : Int64)), .second, .val (.int (ydF y)), .val (.int (pp % (24 : Int32))), .val (.int (ss % (24 : Int32))), .unset, .unset, .unset, .unset, .unset, .unset, .unset, .unset, .unset, .unset, .unset, .unset, .unset, .unset, .unset, .unset, .unset, .unset, .unset]) rfl ?_
    refine XS.iload X101.here hx rfl (hb hby at_161) rfl ?_
    refine XS.iconst X101.here hx rfl (hb hby at_163) ?_
    refine XS.isub X101.here hx rfl (hb hby at_164) rfl ?_
    refine XS.iload X101.here hx rfl (hb hby at_165) rfl ?_
    refine XS.isub X101.here hx rfl (hb hby at_167) rfl ?_
    show Steps p.tables e below (T101.setTop (mkF m 168 #[.val (.long cc), .second, .val (.int rate), .val (.int days), .val (.int y), .val (.int pp), .val (.int ss), .val (.ref b), .val (.long (9223372036854775807 : Int64)), .second, .val (.int (ydF y)), .val (.int (pp % (24 : Int32))), .val (.int (ss % (24 : Int32))), .unset, .unset, .unset, .unset, .unset, .unset, .unset, .unset, .unset, .unset, .unset, .unset, .unset, .unset, .unset, .unset, .unset, .unset, .unset] [(.int (tL pp ss))])) _
    refine XS.istore X101.here hx rfl (hb hby at_168) rfl (l' := #[.val (.long cc), .second, .val (.int rate), .val (.int days), .val (.int y), .val (.int pp), .val (.int ss), .val (.ref b), .val (.long (9223372036854775807 : Int64)), .second, .val (.int (ydF y)), .val (.int (pp % (24 : Int32))), .val (.int (ss % (24 : Int32))), .val (.int (tL pp ss)), .unset, .unset, .unset, .unset, .unset, .unset, .unset, .unset, .unset, .unset, .unset, .unset, .unset, .unset, .unset, .unset, .unset, .unset]) rfl ?_
    refine XS.iload X101.here hx rfl (hb hby at_170) rfl ?_
    refine XS.bipush X101.here hx rfl (hb hby at_172) ?_
    refine XS.icmpNo X101.here hx rfl (hb hby at_174) rfl (flt hc174).2.2.1 ?_
    refine XS.iload X101.here hx rfl (hb hby at_177) rfl ?_
    refine XS.bipush X101.here hx rfl (hb hby at_179) ?_
    refine XS.icmpYes X101.here hx rfl (pc0 := 181) (pc' := 211) rfl (hb hby at_181) rfl (flt hc181).2.1 (by decide) (by decide) ?_
    refine XS.iloadN X101.here hx rfl (hb hby at_211) rfl ?_
    show Steps p.tables e below (T101.setTop (mkF m 212 #[.val (.long cc), .second, .val (.int rate), .val (.int days), .val (.int y), .val (.int pp), .val (.int ss), .val (.ref b), .val (.long (9223372036854775807 : Int64)), .second, .val (.int (ydF y)), .val (.int (pp % (24 : Int32))), .val (.int (ss % (24 : Int32))), .val (.int (tL pp ss)), .unset, .unset, .unset, .unset, .unset, .unset, .unset, .unset, .unset, .unset, .unset, .unset, .unset, .unset, .unset, .unset, .unset, .unset] [(.int rate)])) _
    refine XS.i2l X101.here hx rfl (hb hby at_212) rfl ?_
    refine XS.iloadN X101.here hx rfl (hb hby at_213) rfl ?_
    refine XS.i2l X101.here hx rfl (hb hby at_214) rfl ?_
    refine XS.lmul X101.here hx rfl (hb hby at_215) rfl ?_
    show Steps p.tables e below (T101.setTop (mkF m 216 #[.val (.long cc), .second, .val (.int rate), .val (.int days), .val (.int y), .val (.int pp), .val (.int ss), .val (.ref b), .val (.long (9223372036854775807 : Int64)), .second, .val (.int (ydF y)), .val (.int (pp % (24 : Int32))), .val (.int (ss % (24 : Int32))), .val (.int (tL pp ss)), .unset, .unset, .unset, .unset, .unset, .unset, .unset, .unset, .unset, .unset, .unset, .unset, .unset, .unset, .unset, .unset, .unset, .unset] [(.long (rdF rate days))])) _
    refine XS.lstore X101.here hx rfl (hb hby at_216) rfl (l' := #[.val (.long cc), .second, .val (.int rate), .val (.int days), .val (.int y), .val (.int pp), .val (.int ss), .val (.ref b), .val (.long (9223372036854775807 : Int64)), .second, .val (.int (ydF y)), .val (.int (pp % (24 : Int32))), .val (.int (ss % (24 : Int32))), .val (.int (tL pp ss)), .val (.long (rdF rate days)), .second, .unset, .unset, .unset, .unset, .unset, .unset, .unset, .unset, .unset, .unset, .unset, .unset, .unset, .unset, .unset, .unset]) rfl ?_
    refine XS.iload X101.here hx rfl (hb hby at_218) rfl ?_
    refine XS.ifNo X101.here hx rfl (hb hby at_220) rfl ((if0 _ _).trans (tlt hc220).2.2.2) ?_
    refine XS.lload X101.here hx rfl (hb hby at_223) rfl ?_
    show Steps p.tables e below (T101.setTop (mkF m 225 #[.val (.long cc), .second, .val (.int rate), .val (.int days), .val (.int y), .val (.int pp), .val (.int ss), .val (.ref b), .val (.long (9223372036854775807 : Int64)), .second, .val (.int (ydF y)), .val (.int (pp % (24 : Int32))), .val (.int (ss % (24 : Int32))), .val (.int (tL pp ss)), .val (.long (rdF rate days)), .second, .unset, .unset, .unset, .unset, .unset, .unset, .unset, .unset, .unset, .unset, .unset, .unset, .unset, .unset, .unset, .unset] [(.long (rdF rate days))])) _
    refine st102 _ ?_
    refine XS.lload X102.here hx rfl (hb hby at_228) rfl ?_
    refine XS.aload X102.here hx rfl (hb hby at_230) rfl rfl ?_
    refine XS.iload X102.here hx rfl (hb hby at_232) rfl ?_
    show Steps p.tables e below (T102.setTop (mkF m 234 #[.val (.long cc), .second, .val (.int rate), .val (.int days), .val (.int y), .val (.int pp), .val (.int ss), .val (.ref b), .val (.long (9223372036854775807 : Int64)), .second, .val (.int (ydF y)), .val (.int (pp % (24 : Int32))), .val (.int (ss % (24 : Int32))), .val (.int (tL pp ss)), .val (.long (rdF rate days)), .second, .unset, .unset, .unset, .unset, .unset, .unset, .unset, .unset, .unset, .unset, .unset, .unset, .unset, .unset, .unset, .unset] [(.int (tL pp ss)), (.ref b), (.long (9223372036854775807 : Int64)), (.long (absL (rdF rate days)))])) _
    refine X102.laload hx (j := (tL pp ss)) (v := (.long (powF N))) (by rw [e102]; exact Ar.1) (State.isArrayOf_alike hZ.alike Ar.2.1) Ar.2.2 hin hat (g := (mkF m 234 #[.val (.long cc), .second, .val (.int rate), .val (.int days), .val (.int y), .val (.int pp), .val (.int ss), .val (.ref b), .val (.long (9223372036854775807 : Int64)), .second, .val (.int (ydF y)), .val (.int (pp % (24 : Int32))), .val (.int (ss % (24 : Int32))), .val (.int (tL pp ss)), .val (.long (rdF rate days)), .second, .unset, .unset, .unset, .unset, .unset, .unset, .unset, .unset, .unset, .unset, .unset, .unset, .unset, .unset, .unset, .unset] [(.int (tL pp ss)), (.ref b), (.long (9223372036854775807 : Int64)), (.long (absL (rdF rate days)))])) rfl rfl (hb hby at_234) _ ?_
    refine XS.ldiv X102.here hx rfl (hb hby at_235) rfl hnz235 ?_
    refine XS.lcmp X102.here hx rfl (hb hby at_236) rfl ?_
    refine XS.ifYes X102.here hx rfl (pc0 := 237) (pc' := 267) rfl (hb hby at_237) rfl ((if0 _ _).trans (flt hc237).2.2.2) (by decide) (by decide) ?_
    refine XS.lload X102.here hx rfl (hb hby at_267) rfl ?_
    refine XS.aload X102.here hx rfl (hb hby at_269) rfl rfl ?_
    refine XS.iload X102.here hx rfl (hb hby at_271) rfl ?_
    show Steps p.tables e below (T102.setTop (mkF m 273 #[.val (.long cc), .second, .val (.int rate), .val (.int days), .val (.int y), .val (.int pp), .val (.int ss), .val (.ref b), .val (.long (9223372036854775807 : Int64)), .second, .val (.int (ydF y)), .val (.int (pp % (24 : Int32))), .val (.int (ss % (24 : Int32))), .val (.int (tL pp ss)), .val (.long (rdF rate days)), .second, .unset, .unset, .unset, .unset, .unset, .unset, .unset, .unset, .unset, .unset, .unset, .unset, .unset, .unset, .unset, .unset] [(.int (tL pp ss)), (.ref b), (.long (rdF rate days))])) _
    refine X102.laload hx (j := (tL pp ss)) (v := (.long (powF N))) (by rw [e102]; exact Ar.1) (State.isArrayOf_alike hZ.alike Ar.2.1) Ar.2.2 hin hat (g := (mkF m 273 #[.val (.long cc), .second, .val (.int rate), .val (.int days), .val (.int y), .val (.int pp), .val (.int ss), .val (.ref b), .val (.long (9223372036854775807 : Int64)), .second, .val (.int (ydF y)), .val (.int (pp % (24 : Int32))), .val (.int (ss % (24 : Int32))), .val (.int (tL pp ss)), .val (.long (rdF rate days)), .second, .unset, .unset, .unset, .unset, .unset, .unset, .unset, .unset, .unset, .unset, .unset, .unset, .unset, .unset, .unset, .unset] [(.int (tL pp ss)), (.ref b), (.long (rdF rate days))])) rfl rfl (hb hby at_273) _ ?_
    refine XS.lmul X102.here hx rfl (hb hby at_274) rfl ?_
    show Steps p.tables e below (T102.setTop (mkF m 275 #[.val (.long cc), .second, .val (.int rate), .val (.int days), .val (.int y), .val (.int pp), .val (.int ss), .val (.ref b), .val (.long (9223372036854775807 : Int64)), .second, .val (.int (ydF y)), .val (.int (pp % (24 : Int32))), .val (.int (ss % (24 : Int32))), .val (.int (tL pp ss)), .val (.long (rdF rate days)), .second, .unset, .unset, .unset, .unset, .unset, .unset, .unset, .unset, .unset, .unset, .unset, .unset, .unset, .unset, .unset, .unset] [(.long (perF rate.toInt64 days.toInt64 (powF N)))])) _
    refine XS.lstore X102.here hx rfl (hb hby at_275) rfl (l' := #[.val (.long cc), .second, .val (.int rate), .val (.int days), .val (.int y), .val (.int pp), .val (.int ss), .val (.ref b), .val (.long (9223372036854775807 : Int64)), .second, .val (.int (ydF y)), .val (.int (pp % (24 : Int32))), .val (.int (ss % (24 : Int32))), .val (.int (tL pp ss)), .val (.long (rdF rate days)), .second, .val (.long (perF rate.toInt64 days.toInt64 (powF N))), .second, .unset, .unset, .unset, .unset, .unset, .unset, .unset, .unset, .unset, .unset, .unset, .unset, .unset, .unset]) rfl ?_
    refine XS.iload X102.here hx rfl (hb hby at_277) rfl ?_
    refine XS.i2l X102.here hx rfl (hb hby at_279) rfl ?_
    refine XS.lstore X102.here hx rfl (hb hby at_280) rfl (l' := #[.val (.long cc), .second, .val (.int rate), .val (.int days), .val (.int y), .val (.int pp), .val (.int ss), .val (.ref b), .val (.long (9223372036854775807 : Int64)), .second, .val (.int (ydF y)), .val (.int (pp % (24 : Int32))), .val (.int (ss % (24 : Int32))), .val (.int (tL pp ss)), .val (.long (rdF rate days)), .second, .val (.long (perF rate.toInt64 days.toInt64 (powF N))), .second, .val (.long ((ydF y).toInt64)), .second, .unset, .unset, .unset, .unset, .unset, .unset, .unset, .unset, .unset, .unset, .unset, .unset]) rfl ?_
    refine XS.goto X102.here hx rfl (pc0 := 282) (pc' := 347) rfl (hb hby at_282) (by decide) (by decide) ?_
    refine XS.lload X102.here hx rfl (hb hby at_347) rfl ?_
    refine XS.lconst X102.here hx rfl (hb hby at_349) ?_
    refine XS.lcmp X102.here hx rfl (hb hby at_350) rfl ?_
    show Steps p.tables e below (T102.setTop (mkF m 351 #[.val (.long cc), .second, .val (.int rate), .val (.int days), .val (.int y), .val (.int pp), .val (.int ss), .val (.ref b), .val (.long (9223372036854775807 : Int64)), .second, .val (.int (ydF y)), .val (.int (pp % (24 : Int32))), .val (.int (ss % (24 : Int32))), .val (.int (tL pp ss)), .val (.long (rdF rate days)), .second, .val (.long (perF rate.toInt64 days.toInt64 (powF N))), .second, .val (.long ((ydF y).toInt64)), .second, .unset, .unset, .unset, .unset, .unset, .unset, .unset, .unset, .unset, .unset, .unset, .unset] [(.int (lcmpW (perF rate.toInt64 days.toInt64 (powF N)) (0 : Int64)))])) _
    refine XS.ifYes X102.here hx rfl (pc0 := 351) (pc' := 358) rfl (hb hby at_351) rfl ((if0 _ _).trans (feq hc351).2) (by decide) (by decide) ?_
    refine XS.lloadN X102.here hx rfl (hb hby at_358) rfl ?_
    refine XS.lload X102.here hx rfl (hb hby at_359) rfl ?_
    refine XS.lload X102.here hx rfl (hb hby at_361) rfl ?_
    show Steps p.tables e below (T102.setTop (mkF m 363 #[.val (.long cc), .second, .val (.int rate), .val (.int days), .val (.int y), .val (.int pp), .val (.int ss), .val (.ref b), .val (.long (9223372036854775807 : Int64)), .second, .val (.int (ydF y)), .val (.int (pp % (24 : Int32))), .val (.int (ss % (24 : Int32))), .val (.int (tL pp ss)), .val (.long (rdF rate days)), .second, .val (.long (perF rate.toInt64 days.toInt64 (powF N))), .second, .val (.long ((ydF y).toInt64)), .second, .unset, .unset, .unset, .unset, .unset, .unset, .unset, .unset, .unset, .unset, .unset, .unset] [(.long (perF rate.toInt64 days.toInt64 (powF N))), (.long (9223372036854775807 : Int64)), (.long cc)])) _
    refine st103 _ ?_
    refine XS.ldiv X103.here hx rfl (hb hby at_366) rfl hnz366 ?_
    refine gwLrem X103.here hx rfl (hb hby at_367) rfl hnz367 ?_
    show Steps p.tables e below (T103.setTop (mkF m 368 #[.val (.long cc), .second, .val (.int rate), .val (.int days), .val (.int y), .val (.int pp), .val (.int ss), .val (.ref b), .val (.long (9223372036854775807 : Int64)), .second, .val (.int (ydF y)), .val (.int (pp % (24 : Int32))), .val (.int (ss % (24 : Int32))), .val (.int (tL pp ss)), .val (.long (rdF rate days)), .second, .val (.long (perF rate.toInt64 days.toInt64 (powF N))), .second, .val (.long ((ydF y).toInt64)), .second, .unset, .unset, .unset, .unset, .unset, .unset, .unset, .unset, .unset, .unset, .unset, .unset] [(.long (centF cc (perF rate.toInt64 days.toInt64 (powF N))))])) _
    refine XS.lstore X103.here hx rfl (hb hby at_368) rfl (l' := #[.val (.long cc), .second, .val (.int rate), .val (.int days), .val (.int y), .val (.int pp), .val (.int ss), .val (.ref b), .val (.long (9223372036854775807 : Int64)), .second, .val (.int (ydF y)), .val (.int (pp % (24 : Int32))), .val (.int (ss % (24 : Int32))), .val (.int (tL pp ss)), .val (.long (rdF rate days)), .second, .val (.long (perF rate.toInt64 days.toInt64 (powF N))), .second, .val (.long ((ydF y).toInt64)), .second, .val (.long (centF cc (perF rate.toInt64 days.toInt64 (powF N)))), .second, .unset, .unset, .unset, .unset, .unset, .unset, .unset, .unset, .unset, .unset]) rfl ?_
    refine XS.lload X103.here hx rfl (hb hby at_370) rfl ?_
    refine XS.lload X103.here hx rfl (hb hby at_372) rfl ?_
    refine XS.lmul X103.here hx rfl (hb hby at_374) rfl ?_
    refine XS.lstore X103.here hx rfl (hb hby at_375) rfl (l' := #[.val (.long cc), .second, .val (.int rate), .val (.int days), .val (.int y), .val (.int pp), .val (.int ss), .val (.ref b), .val (.long (9223372036854775807 : Int64)), .second, .val (.int (ydF y)), .val (.int (pp % (24 : Int32))), .val (.int (ss % (24 : Int32))), .val (.int (tL pp ss)), .val (.long (rdF rate days)), .second, .val (.long (perF rate.toInt64 days.toInt64 (powF N))), .second, .val (.long ((ydF y).toInt64)), .second, .val (.long (centF cc (perF rate.toInt64 days.toInt64 (powF N)))), .second, .val (.long ((centF cc (perF rate.toInt64 days.toInt64 (powF N))) * (perF rate.toInt64 days.toInt64 (powF N)))), .second, .unset, .unset, .unset, .unset, .unset, .unset, .unset, .unset]) rfl ?_
    refine XS.lload X103.here hx rfl (hb hby at_377) rfl ?_
    refine XS.lload X103.here hx rfl (hb hby at_379) rfl ?_
    refine XS.ldiv X103.here hx rfl (hb hby at_381) rfl hnz381 ?_
    show Steps p.tables e below (T103.setTop (mkF m 382 #[.val (.long cc), .second, .val (.int rate), .val (.int days), .val (.int y), .val (.int pp), .val (.int ss), .val (.ref b), .val (.long (9223372036854775807 : Int64)), .second, .val (.int (ydF y)), .val (.int (pp % (24 : Int32))), .val (.int (ss % (24 : Int32))), .val (.int (tL pp ss)), .val (.long (rdF rate days)), .second, .val (.long (perF rate.toInt64 days.toInt64 (powF N))), .second, .val (.long ((ydF y).toInt64)), .second, .val (.long (centF cc (perF rate.toInt64 days.toInt64 (powF N)))), .second, .val (.long ((centF cc (perF rate.toInt64 days.toInt64 (powF N))) * (perF rate.toInt64 days.toInt64 (powF N)))), .second, .unset, .unset, .unset, .unset, .unset, .unset, .unset, .unset] [(.long (((centF cc (perF rate.toInt64 days.toInt64 (powF N))) * (perF rate.toInt64 days.toInt64 (powF N))) / ((ydF y).toInt64)))])) _
    refine XS.lstore X103.here hx rfl (hb hby at_382) rfl (l' := #[.val (.long cc), .second, .val (.int rate), .val (.int days), .val (.int y), .val (.int pp), .val (.int ss), .val (.ref b), .val (.long (9223372036854775807 : Int64)), .second, .val (.int (ydF y)), .val (.int (pp % (24 : Int32))), .val (.int (ss % (24 : Int32))), .val (.int (tL pp ss)), .val (.long (rdF rate days)), .second, .val (.long (perF rate.toInt64 days.toInt64 (powF N))), .second, .val (.long ((ydF y).toInt64)), .second, .val (.long (centF cc (perF rate.toInt64 days.toInt64 (powF N)))), .second, .val (.long ((centF cc (perF rate.toInt64 days.toInt64 (powF N))) * (perF rate.toInt64 days.toInt64 (powF N)))), .second, .val (.long (((centF cc (perF rate.toInt64 days.toInt64 (powF N))) * (perF rate.toInt64 days.toInt64 (powF N))) / ((ydF y).toInt64))), .second, .unset, .unset, .unset, .unset, .unset, .unset]) rfl ?_
    refine XS.lload X103.here hx rfl (hb hby at_384) rfl ?_
    refine XS.lload X103.here hx rfl (hb hby at_386) rfl ?_
    refine gwLrem X103.here hx rfl (hb hby at_388) rfl hnz388 ?_
    show Steps p.tables e below (T103.setTop (mkF m 389 #[.val (.long cc), .second, .val (.int rate), .val (.int days), .val (.int y), .val (.int pp), .val (.int ss), .val (.ref b), .val (.long (9223372036854775807 : Int64)), .second, .val (.int (ydF y)), .val (.int (pp % (24 : Int32))), .val (.int (ss % (24 : Int32))), .val (.int (tL pp ss)), .val (.long (rdF rate days)), .second, .val (.long (perF rate.toInt64 days.toInt64 (powF N))), .second, .val (.long ((ydF y).toInt64)), .second, .val (.long (centF cc (perF rate.toInt64 days.toInt64 (powF N)))), .second, .val (.long ((centF cc (perF rate.toInt64 days.toInt64 (powF N))) * (perF rate.toInt64 days.toInt64 (powF N)))), .second, .val (.long (((centF cc (perF rate.toInt64 days.toInt64 (powF N))) * (perF rate.toInt64 days.toInt64 (powF N))) / ((ydF y).toInt64))), .second, .unset, .unset, .unset, .unset, .unset, .unset] [(.long (((centF cc (perF rate.toInt64 days.toInt64 (powF N))) * (perF rate.toInt64 days.toInt64 (powF N))) % ((ydF y).toInt64)))])) _
    refine st104 _ ?_
    refine XS.lstore X104.here hx rfl (hb hby at_392) rfl (l' := #[.val (.long cc), .second, .val (.int rate), .val (.int days), .val (.int y), .val (.int pp), .val (.int ss), .val (.ref b), .val (.long (9223372036854775807 : Int64)), .second, .val (.int (ydF y)), .val (.int (pp % (24 : Int32))), .val (.int (ss % (24 : Int32))), .val (.int (tL pp ss)), .val (.long (rdF rate days)), .second, .val (.long (perF rate.toInt64 days.toInt64 (powF N))), .second, .val (.long ((ydF y).toInt64)), .second, .val (.long (centF cc (perF rate.toInt64 days.toInt64 (powF N)))), .second, .val (.long ((centF cc (perF rate.toInt64 days.toInt64 (powF N))) * (perF rate.toInt64 days.toInt64 (powF N)))), .second, .val (.long (((centF cc (perF rate.toInt64 days.toInt64 (powF N))) * (perF rate.toInt64 days.toInt64 (powF N))) / ((ydF y).toInt64))), .second, .val (.long (absL (((centF cc (perF rate.toInt64 days.toInt64 (powF N))) * (perF rate.toInt64 days.toInt64 (powF N))) % ((ydF y).toInt64)))), .second, .unset, .unset, .unset, .unset]) rfl ?_
    refine XS.lload X104.here hx rfl (hb hby at_394) rfl ?_
    refine XS.lload X104.here hx rfl (hb hby at_396) rfl ?_
    refine XS.lload X104.here hx rfl (hb hby at_398) rfl ?_
    refine XS.lsub X104.here hx rfl (hb hby at_400) rfl ?_
    refine XS.lcmp X104.here hx rfl (hb hby at_401) rfl ?_
    refine XS.ifNo X104.here hx rfl (hb hby at_402) rfl ((if0 _ _).trans (flt hc402).1) ?_
    show Steps p.tables e below (T104.setTop (mkF m 405 #[.val (.long cc), .second, .val (.int rate), .val (.int days), .val (.int y), .val (.int pp), .val (.int ss), .val (.ref b), .val (.long (9223372036854775807 : Int64)), .second, .val (.int (ydF y)), .val (.int (pp % (24 : Int32))), .val (.int (ss % (24 : Int32))), .val (.int (tL pp ss)), .val (.long (rdF rate days)), .second, .val (.long (perF rate.toInt64 days.toInt64 (powF N))), .second, .val (.long ((ydF y).toInt64)), .second, .val (.long (centF cc (perF rate.toInt64 days.toInt64 (powF N)))), .second, .val (.long ((centF cc (perF rate.toInt64 days.toInt64 (powF N))) * (perF rate.toInt64 days.toInt64 (powF N)))), .second, .val (.long (((centF cc (perF rate.toInt64 days.toInt64 (powF N))) * (perF rate.toInt64 days.toInt64 (powF N))) / ((ydF y).toInt64))), .second, .val (.long (absL (((centF cc (perF rate.toInt64 days.toInt64 (powF N))) * (perF rate.toInt64 days.toInt64 (powF N))) % ((ydF y).toInt64)))), .second, .unset, .unset, .unset, .unset] [])) _
    refine XS.lload X104.here hx rfl (hb hby at_405) rfl ?_
    refine XS.lconst X104.here hx rfl (hb hby at_407) ?_
    refine XS.lcmp X104.here hx rfl (hb hby at_408) rfl ?_
    refine XS.ifNo X104.here hx rfl (hb hby at_409) rfl ((if0 _ _).trans (tlt hc409).2.2.2) ?_
    refine XS.lconst X104.here hx rfl (hb hby at_412) ?_
    refine XS.goto X104.here hx rfl (pc0 := 413) (pc' := 423) rfl (hb hby at_413) (by decide) (by decide) ?_
    refine XS.lstore X104.here hx rfl (hb hby at_423) rfl (l' := #[.val (.long cc), .second, .val (.int rate), .val (.int days), .val (.int y), .val (.int pp), .val (.int ss), .val (.ref b), .val (.long (9223372036854775807 : Int64)), .second, .val (.int (ydF y)), .val (.int (pp % (24 : Int32))), .val (.int (ss % (24 : Int32))), .val (.int (tL pp ss)), .val (.long (rdF rate days)), .second, .val (.long (perF rate.toInt64 days.toInt64 (powF N))), .second, .val (.long ((ydF y).toInt64)), .second, .val (.long (centF cc (perF rate.toInt64 days.toInt64 (powF N)))), .second, .val (.long ((centF cc (perF rate.toInt64 days.toInt64 (powF N))) * (perF rate.toInt64 days.toInt64 (powF N)))), .second, .val (.long (((centF cc (perF rate.toInt64 days.toInt64 (powF N))) * (perF rate.toInt64 days.toInt64 (powF N))) / ((ydF y).toInt64))), .second, .val (.long (absL (((centF cc (perF rate.toInt64 days.toInt64 (powF N))) * (perF rate.toInt64 days.toInt64 (powF N))) % ((ydF y).toInt64)))), .second, .val (.long (1 : Int64)), .second, .unset, .unset]) rfl ?_
    refine XS.lload X104.here hx rfl (hb hby at_425) rfl ?_
    show Steps p.tables e below (T104.setTop (mkF m 427 #[.val (.long cc), .second, .val (.int rate), .val (.int days), .val (.int y), .val (.int pp), .val (.int ss), .val (.ref b), .val (.long (9223372036854775807 : Int64)), .second, .val (.int (ydF y)), .val (.int (pp % (24 : Int32))), .val (.int (ss % (24 : Int32))), .val (.int (tL pp ss)), .val (.long (rdF rate days)), .second, .val (.long (perF rate.toInt64 days.toInt64 (powF N))), .second, .val (.long ((ydF y).toInt64)), .second, .val (.long (centF cc (perF rate.toInt64 days.toInt64 (powF N)))), .second, .val (.long ((centF cc (perF rate.toInt64 days.toInt64 (powF N))) * (perF rate.toInt64 days.toInt64 (powF N)))), .second, .val (.long (((centF cc (perF rate.toInt64 days.toInt64 (powF N))) * (perF rate.toInt64 days.toInt64 (powF N))) / ((ydF y).toInt64))), .second, .val (.long (absL (((centF cc (perF rate.toInt64 days.toInt64 (powF N))) * (perF rate.toInt64 days.toInt64 (powF N))) % ((ydF y).toInt64)))), .second, .val (.long (1 : Int64)), .second, .unset, .unset] [(.long (((centF cc (perF rate.toInt64 days.toInt64 (powF N))) * (perF rate.toInt64 days.toInt64 (powF N))) / ((ydF y).toInt64)))])) _
    refine XS.lload X104.here hx rfl (hb hby at_427) rfl ?_
    refine XS.ladd X104.here hx rfl (hb hby at_429) rfl ?_
    refine XS.lstore X104.here hx rfl (hb hby at_430) rfl (l' := #[.val (.long cc), .second, .val (.int rate), .val (.int days), .val (.int y), .val (.int pp), .val (.int ss), .val (.ref b), .val (.long (9223372036854775807 : Int64)), .second, .val (.int (ydF y)), .val (.int (pp % (24 : Int32))), .val (.int (ss % (24 : Int32))), .val (.int (tL pp ss)), .val (.long (rdF rate days)), .second, .val (.long (perF rate.toInt64 days.toInt64 (powF N))), .second, .val (.long ((ydF y).toInt64)), .second, .val (.long (centF cc (perF rate.toInt64 days.toInt64 (powF N)))), .second, .val (.long ((centF cc (perF rate.toInt64 days.toInt64 (powF N))) * (perF rate.toInt64 days.toInt64 (powF N)))), .second, .val (.long (((centF cc (perF rate.toInt64 days.toInt64 (powF N))) * (perF rate.toInt64 days.toInt64 (powF N))) / ((ydF y).toInt64))), .second, .val (.long (absL (((centF cc (perF rate.toInt64 days.toInt64 (powF N))) * (perF rate.toInt64 days.toInt64 (powF N))) % ((ydF y).toInt64)))), .second, .val (.long (1 : Int64)), .second, .val (.long ((((centF cc (perF rate.toInt64 days.toInt64 (powF N))) * (perF rate.toInt64 days.toInt64 (powF N))) / ((ydF y).toInt64)) + (1 : Int64))), .second]) rfl ?_
    refine XS.lload X104.here hx rfl (hb hby at_432) rfl ?_
    refine XS.iloadN X104.here hx rfl (hb hby at_434) rfl ?_
    refine XS.i2l X104.here hx rfl (hb hby at_435) rfl ?_
    refine XS.iload X104.here hx rfl (hb hby at_436) rfl ?_
    refine XS.iloadN X104.here hx rfl (hb hby at_438) rfl ?_
    show Steps p.tables e below (T104.setTop (mkF m 439 #[.val (.long cc), .second, .val (.int rate), .val (.int days), .val (.int y), .val (.int pp), .val (.int ss), .val (.ref b), .val (.long (9223372036854775807 : Int64)), .second, .val (.int (ydF y)), .val (.int (pp % (24 : Int32))), .val (.int (ss % (24 : Int32))), .val (.int (tL pp ss)), .val (.long (rdF rate days)), .second, .val (.long (perF rate.toInt64 days.toInt64 (powF N))), .second, .val (.long ((ydF y).toInt64)), .second, .val (.long (centF cc (perF rate.toInt64 days.toInt64 (powF N)))), .second, .val (.long ((centF cc (perF rate.toInt64 days.toInt64 (powF N))) * (perF rate.toInt64 days.toInt64 (powF N)))), .second, .val (.long (((centF cc (perF rate.toInt64 days.toInt64 (powF N))) * (perF rate.toInt64 days.toInt64 (powF N))) / ((ydF y).toInt64))), .second, .val (.long (absL (((centF cc (perF rate.toInt64 days.toInt64 (powF N))) * (perF rate.toInt64 days.toInt64 (powF N))) % ((ydF y).toInt64)))), .second, .val (.long (1 : Int64)), .second, .val (.long ((((centF cc (perF rate.toInt64 days.toInt64 (powF N))) * (perF rate.toInt64 days.toInt64 (powF N))) / ((ydF y).toInt64)) + (1 : Int64))), .second] [(.int days), (.int (ss % (24 : Int32))), (.long (rate.toInt64)), (.long (centF cc (perF rate.toInt64 days.toInt64 (powF N))))])) _
    refine XS.i2l X104.here hx rfl (hb hby at_439) rfl ?_
    refine XS.iload X104.here hx rfl (hb hby at_440) rfl ?_
    refine XS.iload X104.here hx rfl (hb hby at_442) rfl ?_
    show Steps p.tables e below (T104.setTop (mkF m 444 #[.val (.long cc), .second, .val (.int rate), .val (.int days), .val (.int y), .val (.int pp), .val (.int ss), .val (.ref b), .val (.long (9223372036854775807 : Int64)), .second, .val (.int (ydF y)), .val (.int (pp % (24 : Int32))), .val (.int (ss % (24 : Int32))), .val (.int (tL pp ss)), .val (.long (rdF rate days)), .second, .val (.long (perF rate.toInt64 days.toInt64 (powF N))), .second, .val (.long ((ydF y).toInt64)), .second, .val (.long (centF cc (perF rate.toInt64 days.toInt64 (powF N)))), .second, .val (.long ((centF cc (perF rate.toInt64 days.toInt64 (powF N))) * (perF rate.toInt64 days.toInt64 (powF N)))), .second, .val (.long (((centF cc (perF rate.toInt64 days.toInt64 (powF N))) * (perF rate.toInt64 days.toInt64 (powF N))) / ((ydF y).toInt64))), .second, .val (.long (absL (((centF cc (perF rate.toInt64 days.toInt64 (powF N))) * (perF rate.toInt64 days.toInt64 (powF N))) % ((ydF y).toInt64)))), .second, .val (.long (1 : Int64)), .second, .val (.long ((((centF cc (perF rate.toInt64 days.toInt64 (powF N))) * (perF rate.toInt64 days.toInt64 (powF N))) / ((ydF y).toInt64)) + (1 : Int64))), .second] [(.int (pp % (24 : Int32))), (.int (ydF y)), (.long (days.toInt64)), (.int (ss % (24 : Int32))), (.long (rate.toInt64)), (.long (centF cc (perF rate.toInt64 days.toInt64 (powF N))))])) _
    refine st105 _ ?_
    refine XS.lload X105.here hx rfl (hb hby at_447) rfl ?_
    refine XS.lcmp X105.here hx rfl (hb hby at_449) rfl ?_
    refine XS.ifNo X105.here hx rfl (hb hby at_450) rfl ((if0 _ _).trans (teq hc450).2) ?_
    refine XS.iconst X105.here hx rfl (hb hby at_453) ?_
    refine XS.goto X105.here hx rfl (pc0 := 454) (pc' := 458) rfl (hb hby at_454) (by decide) (by decide) ?_
    show Steps p.tables e below (T105.setTop (mkF m 458 #[.val (.long cc), .second, .val (.int rate), .val (.int days), .val (.int y), .val (.int pp), .val (.int ss), .val (.ref b), .val (.long (9223372036854775807 : Int64)), .second, .val (.int (ydF y)), .val (.int (pp % (24 : Int32))), .val (.int (ss % (24 : Int32))), .val (.int (tL pp ss)), .val (.long (rdF rate days)), .second, .val (.long (perF rate.toInt64 days.toInt64 (powF N))), .second, .val (.long ((ydF y).toInt64)), .second, .val (.long (centF cc (perF rate.toInt64 days.toInt64 (powF N)))), .second, .val (.long ((centF cc (perF rate.toInt64 days.toInt64 (powF N))) * (perF rate.toInt64 days.toInt64 (powF N)))), .second, .val (.long (((centF cc (perF rate.toInt64 days.toInt64 (powF N))) * (perF rate.toInt64 days.toInt64 (powF N))) / ((ydF y).toInt64))), .second, .val (.long (absL (((centF cc (perF rate.toInt64 days.toInt64 (powF N))) * (perF rate.toInt64 days.toInt64 (powF N))) % ((ydF y).toInt64)))), .second, .val (.long (1 : Int64)), .second, .val (.long ((((centF cc (perF rate.toInt64 days.toInt64 (powF N))) * (perF rate.toInt64 days.toInt64 (powF N))) / ((ydF y).toInt64)) + (1 : Int64))), .second] [(.int (1 : Int32))])) _
    exact retN X105 hx (t := .boolean) Bd.returns (by simp) (hb hby at_458) hr
  · show Q0  h0 n0 _ T105.heap _
    exact ⟨rfl, N105⟩
set_option maxRecDepth 65536 in
set_option maxHeartbeats 40000000 in
theorem rm0_P2 (l : Launch) (Z : State) (a0 : Array Value) (hw : ∀ d ∈ tables_1, d.before a0 Z = true) (ws : List Jvm.Cond) (cc : Int64) (rate : Int32) (days : Int32) (y : Int32) (pp : Int32) (ss : Int32) (N : Nat) (h0 : Heap) (n0 : Nat) (Z0 : n0 ≤ h0.size) (hj : (tL pp ss) = Int32.ofNat N) (hj1 : N < 19) (hc174 : ¬ ((18 : Int32) < (tL pp ss))) (hc181 : ¬ ((tL pp ss) < (-18 : Int32))) (hc220 : (0 : Int32) < (tL pp ss)) (hnz235 : ¬ ((powF N) = (0 : Int64))) (hc237 : ¬ ((0 : Int32) < (lcmpW (absL (rdF rate days)) ((9223372036854775807 : Int64) / (powF N))))) (hc351 : ¬ ((lcmpW (perF rate.toInt64 days.toInt64 (powF N)) (0 : Int64)) = (0 : Int32))) (hnz366 : ¬ ((absL (perF rate.toInt64 days.toInt64 (powF N))) = (0 : Int64))) (hnz367 : ¬ (((9223372036854775807 : Int64) / (absL (perF rate.toInt64 days.toInt64 (powF N)))) = (0 : Int64))) (hnz381 : ¬ (((ydF y).toInt64) = (0 : Int64))) (hnz388 : ¬ (((ydF y).toInt64) = (0 : Int64))) (hc402 : ¬ ((lcmpW (absL (((centF cc (perF rate.toInt64 days.toInt64 (powF N))) * (perF rate.toInt64 days.toInt64 (powF N))) % ((ydF y).toInt64))) (((ydF y).toInt64) - (absL (((centF cc (perF rate.toInt64 days.toInt64 (powF N))) * (perF rate.toInt64 days.toInt64 (powF N))) % ((ydF y).toInt64))))) < (0 : Int32))) (hc409 : ¬ ((0 : Int32) < (lcmpW ((centF cc (perF rate.toInt64 days.toInt64 (powF N))) * (perF rate.toInt64 days.toInt64 (powF N))) (0 : Int64)))) (hN : absI (tA (pp % (24 : Int32)) (ss % (24 : Int32))) = Int32.ofNat N) (hN1 : N < 100) (fhc18 : ¬ ((18 : Int32) < (absI (tA (pp % (24 : Int32)) (ss % (24 : Int32)))))) (fhc37 : (0 : Int32) < (tA (pp % (24 : Int32)) (ss % (24 : Int32)))) (fhc50 : (0 : Int32) < (tA (pp % (24 : Int32)) (ss % (24 : Int32)))) (fhc67 : ¬ ((proF (rate.toInt64) (days.toInt64)) = (0 : Int32))) (fhc79 : ¬ ((proF ((rate.toInt64) * (days.toInt64)) (powF N)) = (0 : Int32))) (fhc90 : ¬ ((proF ((ydF y).toInt64) (1 : Int64)) = (0 : Int32))) (fhnz118 : ¬ ((divF (ydF y) (1 : Int64)) = (0 : Int64))) (fhnz125 : ¬ ((divF (ydF y) (1 : Int64)) = (0 : Int64))) (fhc134 : ¬ ((proF (centF cc (perF rate.toInt64 days.toInt64 (powF N))) ((perF (rate.toInt64) (days.toInt64) (powF N)) / (divF (ydF y) (1 : Int64)))) = (0 : Int32))) (fhc143 : ¬ ((proF (centF cc (perF rate.toInt64 days.toInt64 (powF N))) ((perF (rate.toInt64) (days.toInt64) (powF N)) % (divF (ydF y) (1 : Int64)))) = (0 : Int32))) (fhnz162 : ¬ ((divF (ydF y) (1 : Int64)) = (0 : Int64))) (fhnz171 : ¬ ((divF (ydF y) (1 : Int64)) = (0 : Int64))) (fhc185 : ¬ ((lcmpW (remF (centF cc (perF rate.toInt64 days.toInt64 (powF N))) ((perF (rate.toInt64) (days.toInt64) (powF N)) % (divF (ydF y) (1 : Int64))) (divF (ydF y) (1 : Int64))) ((divF (ydF y) (1 : Int64)) - (remF (centF cc (perF rate.toInt64 days.toInt64 (powF N))) ((perF (rate.toInt64) (days.toInt64) (powF N)) % (divF (ydF y) (1 : Int64))) (divF (ydF y) (1 : Int64))))) < (0 : Int32))) (fhc212 : ¬ ((sumF ((centF cc (perF rate.toInt64 days.toInt64 (powF N))) * ((perF (rate.toInt64) (days.toInt64) (powF N)) / (divF (ydF y) (1 : Int64)))) (((centF cc (perF rate.toInt64 days.toInt64 (powF N))) * ((perF (rate.toInt64) (days.toInt64) (powF N)) % (divF (ydF y) (1 : Int64)))) / (divF (ydF y) (1 : Int64)))) = (0 : Int32))) (fhc225 : ¬ ((sumF (((centF cc (perF rate.toInt64 days.toInt64 (powF N))) * ((perF (rate.toInt64) (days.toInt64) (powF N)) / (divF (ydF y) (1 : Int64)))) + (((centF cc (perF rate.toInt64 days.toInt64 (powF N))) * ((perF (rate.toInt64) (days.toInt64) (powF N)) % (divF (ydF y) (1 : Int64)))) / (divF (ydF y) (1 : Int64)))) (rupF (centF cc (perF rate.toInt64 days.toInt64 (powF N))) (perF (rate.toInt64) (days.toInt64) (powF N)))) = (0 : Int32))) (hc450 : (lcmpW (sum3 ((centF cc (perF rate.toInt64 days.toInt64 (powF N))) * ((perF (rate.toInt64) (days.toInt64) (powF N)) / (divF (ydF y) (1 : Int64)))) (((centF cc (perF rate.toInt64 days.toInt64 (powF N))) * ((perF (rate.toInt64) (days.toInt64) (powF N)) % (divF (ydF y) (1 : Int64)))) / (divF (ydF y) (1 : Int64))) (rupF (centF cc (perF rate.toInt64 days.toInt64 (powF N))) (perF (rate.toInt64) (days.toInt64) (powF N)))) ((((centF cc (perF rate.toInt64 days.toInt64 (powF N))) * (perF rate.toInt64 days.toInt64 (powF N))) / ((ydF y).toInt64)) + (-1 : Int64))) = (0 : Int32)) :
    MetFree l x (head1 (Jvm.Cond.code x code maxLocals ret :: ws) room_1) (fun aa U => aa = #[(.long cc), (.int rate), (.int days), (.int y), (.int pp), (.int ss)] ∧ Z.Warmed39 U.vm ∧ U.heap = h0) (fun _ _ _ _ _ => True) (fun _ U o U' => ∃ v L, o = .returned v ∧ Q0  h0 n0 v U'.heap L ∧ FrameEnd U o U' L room_1.cells room_1.slots) := by
  refine MetFree.of_bodySF (plainFor_of_name pn_0) hisR ?_
  intro p e s m args below meth c s₁ Bd hml0 hP hK
  obtain ⟨rfl, hZ, hh⟩ := hP
  have hx := Bd.exec
  have hby := Bd.bytes
  have hml : c.maxLocals = 32 := hml0
  have hown : s.vm.findClass "com/example/syndicata/syndicata/AccrualAccruedUnitsPinLaw" = some m.cls := findClass_of_methodNamed Bd.named
  have hnm := (name_of_methodNamed Bd.named Bd.method).1
  have X0 : Stand p l e room_1 s m #[(.long cc), (.int rate), (.int days), (.int y), (.int pp), (.int ss)] below meth c s₁ [] 0 0 := Stand.of_body Bd
  have e0 : s₁.heap = h0 := by rw [← hh, Bd.state]; rfl
  have N0 := Fr.nil n0
  have pre0 : ∀ zz, Steps p.tables e below (s₁.setTop (mkF m 0 #[.val (.long cc), .second, .val (.int rate), .val (.int days), .val (.int y), .val (.int pp), .val (.int ss), .unset, .unset, .unset, .unset, .unset, .unset, .unset, .unset, .unset, .unset, .unset, .unset, .unset, .unset, .unset, .unset, .unset, .unset, .unset, .unset, .unset, .unset, .unset, .unset, .unset] [])) zz → Steps p.tables e below (s₁.setTop (entryFrame m #[(.long cc), (.int rate), (.int days), (.int y), (.int pp), (.int ss)] maxLocals)) zz := fun zz k => castTop (ef_0 m cc rate days y pp ss) k
  obtain ⟨Tf, hf1, b, kk, locs1, Xf, ef, Zf, Vf, Nf, stf⟩ := fill0 (n0 := n0) cc rate days y pp ss X0 hx hZ hw hby hown e0 Z0
  obtain ⟨cl, Ar, q_, S_, N_, H_, G_⟩ := Vf
  have hjc : ((tL pp ss)).toNatClampNeg = N := by rw [hj]; exact ofNat_clamp (by omega)
  have hsz : cl.slots.size = 19 := S_
  have hin : ¬ ((tL pp ss) < 0 ∨ cl.slots.size ≤ ((tL pp ss)).toNatClampNeg) := by rw [hjc, hsz]; exact fun q => q.elim (by rw [hj]; exact ofNat_nn (by omega)) (fun q => absurd q (by omega))
  have hat : cl.slots[((tL pp ss)).toNatClampNeg]? = some (.long (powF N)) := by rw [hjc, H_ N (by omega), tens_at N hj1]
  obtain ⟨_, _, ⟨T106, L106, k106, n106⟩, -, X106, ⟨Lc106, hQ106, l106, y106, z106⟩, st106⟩ := Jvm.LawKit.callS Xf hx (y := (⟨"java/lang/Math", "max", "(II)I"⟩ : MethodName)) hown (mvT hZ (hw _ (List.mem_of_getElem? (i := 21) rfl))) (mvT hZ (hw _ (List.mem_of_getElem? (i := 22) rfl))) (mvT hZ (hw _ (List.mem_of_getElem? (i := 23) rfl))) (mvT hZ (hw _ (List.mem_of_getElem? (i := 24) rfl))) (by decide) (backOf (W := 0) (rm1 l Z a0 hw [] (1 : Int32) (y &&& (2147483647 : Int32)) hf1 n0 Zf) hZ (hw _ (List.mem_of_getElem? (i := 24) rfl)) (hw _ (List.mem_of_getElem? (i := 23) rfl)) (by decide) (by decide)) (g := (mkF m 142 #[.val (.long cc), .second, .val (.int rate), .val (.int days), .val (.int y), .val (.int pp), .val (.int ss), .val (.ref b), .val (.long (9223372036854775807 : Int64)), .second, .unset, .unset, .unset, .unset, .unset, .unset, .unset, .unset, .unset, .unset, .unset, .unset, .unset, .unset, .unset, .unset, .unset, .unset, .unset, .unset, .unset, .unset] [(.int (y &&& (2147483647 : Int32))), (.int (1 : Int32))])) rfl (by rw [hml]; rfl) (argsL := [(.int (1 : Int32)), (.int (y &&& (2147483647 : Int32)))]) (rest := []) (lenOf pd_0 rfl) rfl (by show 2 * 0 + _ ≤ _; exact Nat.le_of_eq rfl) (hb hby at_142) (fun _ _ => ⟨rfl, ef, (by decide : 1 + 0 ≤ _), (by decide : 19 + 0 ≤ _)⟩)
  dsimp only [Pt.U, Pt.locs, Pt.cells, Pt.slots] at X106 l106 y106 z106 st106 hQ106
  subst l106 y106 z106
  obtain ⟨rfl, N106q, e106⟩ := hQ106
  have N106 := Fr.app Nf N106q
  obtain ⟨_, _, ⟨T107, L107, k107, n107⟩, -, X107, ⟨Lc107, hQ107, l107, y107, z107⟩, st107⟩ := Jvm.LawKit.callS X106 hx (y := (⟨"java/lang/Math", "abs", "(J)J"⟩ : MethodName)) hown (mvT hZ (hw _ (List.mem_of_getElem? (i := 25) rfl))) (mvT hZ (hw _ (List.mem_of_getElem? (i := 26) rfl))) (mvT hZ (hw _ (List.mem_of_getElem? (i := 23) rfl))) (mvT hZ (hw _ (List.mem_of_getElem? (i := 27) rfl))) (by decide) (backOf (W := 0) (rm2 l Z a0 hw [] (rdF rate days) hf1 n0 Zf) hZ (hw _ (List.mem_of_getElem? (i := 27) rfl)) (hw _ (List.mem_of_getElem? (i := 23) rfl)) (by decide) (by decide)) (g := (mkF m 225 #[.val (.long cc), .second, .val (.int rate), .val (.int days), .val (.int y), .val (.int pp), .val (.int ss), .val (.ref b), .val (.long (9223372036854775807 : Int64)), .second, .val (.int (ydF y)), .val (.int (pp % (24 : Int32))), .val (.int (ss % (24 : Int32))), .val (.int (tL pp ss)), .val (.long (rdF rate days)), .second, .unset, .unset, .unset, .unset, .unset, .unset, .unset, .unset, .unset, .unset, .unset, .unset, .unset, .unset, .unset, .unset] [(.long (rdF rate days))])) rfl (by rw [hml]; rfl) (argsL := [(.long (rdF rate days))]) (rest := []) (lenOf pd_1 rfl) rfl (by show 2 * 0 + _ ≤ _; exact Nat.le_of_eq rfl) (hb hby at_225) (fun _ _ => ⟨rfl, e106, (by decide : 1 + 0 ≤ _), (by decide : 19 + 0 ≤ _)⟩)
  dsimp only [Pt.U, Pt.locs, Pt.cells, Pt.slots] at X107 l107 y107 z107 st107 hQ107
  subst l107 y107 z107
  obtain ⟨rfl, N107q, e107⟩ := hQ107
  have N107 := Fr.app N106 N107q
  obtain ⟨_, _, ⟨T108, L108, k108, n108⟩, -, X108, ⟨Lc108, hQ108, l108, y108, z108⟩, st108⟩ := Jvm.LawKit.callS X107 hx (y := (⟨"java/lang/Math", "abs", "(J)J"⟩ : MethodName)) hown (mvT hZ (hw _ (List.mem_of_getElem? (i := 25) rfl))) (mvT hZ (hw _ (List.mem_of_getElem? (i := 26) rfl))) (mvT hZ (hw _ (List.mem_of_getElem? (i := 23) rfl))) (mvT hZ (hw _ (List.mem_of_getElem? (i := 27) rfl))) (by decide) (backOf (W := 4) (rm2 l Z a0 hw [] (perF rate.toInt64 days.toInt64 (powF N)) hf1 n0 Zf) hZ (hw _ (List.mem_of_getElem? (i := 27) rfl)) (hw _ (List.mem_of_getElem? (i := 23) rfl)) (by decide) (by decide)) (g := (mkF m 363 #[.val (.long cc), .second, .val (.int rate), .val (.int days), .val (.int y), .val (.int pp), .val (.int ss), .val (.ref b), .val (.long (9223372036854775807 : Int64)), .second, .val (.int (ydF y)), .val (.int (pp % (24 : Int32))), .val (.int (ss % (24 : Int32))), .val (.int (tL pp ss)), .val (.long (rdF rate days)), .second, .val (.long (perF rate.toInt64 days.toInt64 (powF N))), .second, .val (.long ((ydF y).toInt64)), .second, .unset, .unset, .unset, .unset, .unset, .unset, .unset, .unset, .unset, .unset, .unset, .unset] [(.long (perF rate.toInt64 days.toInt64 (powF N))), (.long (9223372036854775807 : Int64)), (.long cc)])) rfl (by rw [hml]; rfl) (argsL := [(.long (perF rate.toInt64 days.toInt64 (powF N)))]) (rest := [(.long (9223372036854775807 : Int64)), (.long cc)]) (lenOf pd_1 rfl) rfl (by show 2 * 0 + _ ≤ _; exact Nat.le_of_eq rfl) (hb hby at_363) (fun _ _ => ⟨rfl, e107, (by decide : 1 + 0 ≤ _), (by decide : 19 + 0 ≤ _)⟩)
  dsimp only [Pt.U, Pt.locs, Pt.cells, Pt.slots] at X108 l108 y108 z108 st108 hQ108
  subst l108 y108 z108
  obtain ⟨rfl, N108q, e108⟩ := hQ108
  have N108 := Fr.app N107 N108q
  obtain ⟨_, _, ⟨T109, L109, k109, n109⟩, -, X109, ⟨Lc109, hQ109, l109, y109, z109⟩, st109⟩ := Jvm.LawKit.callS X108 hx (y := (⟨"java/lang/Math", "abs", "(J)J"⟩ : MethodName)) hown (mvT hZ (hw _ (List.mem_of_getElem? (i := 25) rfl))) (mvT hZ (hw _ (List.mem_of_getElem? (i := 26) rfl))) (mvT hZ (hw _ (List.mem_of_getElem? (i := 23) rfl))) (mvT hZ (hw _ (List.mem_of_getElem? (i := 27) rfl))) (by decide) (backOf (W := 0) (rm2 l Z a0 hw [] (((centF cc (perF rate.toInt64 days.toInt64 (powF N))) * (perF rate.toInt64 days.toInt64 (powF N))) % ((ydF y).toInt64)) hf1 n0 Zf) hZ (hw _ (List.mem_of_getElem? (i := 27) rfl)) (hw _ (List.mem_of_getElem? (i := 23) rfl)) (by decide) (by decide)) (g := (mkF m 389 #[.val (.long cc), .second, .val (.int rate), .val (.int days), .val (.int y), .val (.int pp), .val (.int ss), .val (.ref b), .val (.long (9223372036854775807 : Int64)), .second, .val (.int (ydF y)), .val (.int (pp % (24 : Int32))), .val (.int (ss % (24 : Int32))), .val (.int (tL pp ss)), .val (.long (rdF rate days)), .second, .val (.long (perF rate.toInt64 days.toInt64 (powF N))), .second, .val (.long ((ydF y).toInt64)), .second, .val (.long (centF cc (perF rate.toInt64 days.toInt64 (powF N)))), .second, .val (.long ((centF cc (perF rate.toInt64 days.toInt64 (powF N))) * (perF rate.toInt64 days.toInt64 (powF N)))), .second, .val (.long (((centF cc (perF rate.toInt64 days.toInt64 (powF N))) * (perF rate.toInt64 days.toInt64 (powF N))) / ((ydF y).toInt64))), .second, .unset, .unset, .unset, .unset, .unset, .unset] [(.long (((centF cc (perF rate.toInt64 days.toInt64 (powF N))) * (perF rate.toInt64 days.toInt64 (powF N))) % ((ydF y).toInt64)))])) rfl (by rw [hml]; rfl) (argsL := [(.long (((centF cc (perF rate.toInt64 days.toInt64 (powF N))) * (perF rate.toInt64 days.toInt64 (powF N))) % ((ydF y).toInt64)))]) (rest := []) (lenOf pd_1 rfl) rfl (by show 2 * 0 + _ ≤ _; exact Nat.le_of_eq rfl) (hb hby at_389) (fun _ _ => ⟨rfl, e108, (by decide : 1 + 0 ≤ _), (by decide : 19 + 0 ≤ _)⟩)
  dsimp only [Pt.U, Pt.locs, Pt.cells, Pt.slots] at X109 l109 y109 z109 st109 hQ109
  subst l109 y109 z109
  obtain ⟨rfl, N109q, e109⟩ := hQ109
  have N109 := Fr.app N108 N109q
  obtain ⟨_, _, ⟨T110, L110, k110, n110⟩, -, X110, ⟨Lc110, hQ110, l110, y110, z110⟩, st110⟩ := Jvm.LawKit.callS X109 hx (y := (⟨"com/example/syndicata/syndicata/Accrual", "accruedUnits", "(JJIJII)J"⟩ : MethodName)) hown (mvT hZ (hw _ (List.mem_of_getElem? (i := 28) rfl))) (mvT hZ (hw _ (List.mem_of_getElem? (i := 29) rfl))) (mvT hZ (hw _ (List.mem_of_getElem? (i := 30) rfl))) (mvT hZ (hw _ (List.mem_of_getElem? (i := 31) rfl))) (by decide) (backOf (W := 0) (rm3_P1 l Z a0 hw [] (centF cc (perF rate.toInt64 days.toInt64 (powF N))) (rate.toInt64) (ss % (24 : Int32)) (days.toInt64) (ydF y) (pp % (24 : Int32)) N hf1 n0 Zf hN hN1 fhc18 fhc37 fhc50 fhc67 fhc79 fhc90 fhnz118 fhnz125 fhc134 fhc143 fhnz162 fhnz171 fhc185 fhc212 fhc225) hZ (hw _ (List.mem_of_getElem? (i := 31) rfl)) (hw _ (List.mem_of_getElem? (i := 30) rfl)) (by decide) (by decide)) (g := (mkF m 444 #[.val (.long cc), .second, .val (.int rate), .val (.int days), .val (.int y), .val (.int pp), .val (.int ss), .val (.ref b), .val (.long (9223372036854775807 : Int64)), .second, .val (.int (ydF y)), .val (.int (pp % (24 : Int32))), .val (.int (ss % (24 : Int32))), .val (.int (tL pp ss)), .val (.long (rdF rate days)), .second, .val (.long (perF rate.toInt64 days.toInt64 (powF N))), .second, .val (.long ((ydF y).toInt64)), .second, .val (.long (centF cc (perF rate.toInt64 days.toInt64 (powF N)))), .second, .val (.long ((centF cc (perF rate.toInt64 days.toInt64 (powF N))) * (perF rate.toInt64 days.toInt64 (powF N)))), .second, .val (.long (((centF cc (perF rate.toInt64 days.toInt64 (powF N))) * (perF rate.toInt64 days.toInt64 (powF N))) / ((ydF y).toInt64))), .second, .val (.long (absL (((centF cc (perF rate.toInt64 days.toInt64 (powF N))) * (perF rate.toInt64 days.toInt64 (powF N))) % ((ydF y).toInt64)))), .second, .val (.long (-1 : Int64)), .second, .val (.long ((((centF cc (perF rate.toInt64 days.toInt64 (powF N))) * (perF rate.toInt64 days.toInt64 (powF N))) / ((ydF y).toInt64)) + (-1 : Int64))), .second] [(.int (pp % (24 : Int32))), (.int (ydF y)), (.long (days.toInt64)), (.int (ss % (24 : Int32))), (.long (rate.toInt64)), (.long (centF cc (perF rate.toInt64 days.toInt64 (powF N))))])) rfl (by rw [hml]; rfl) (argsL := [(.long (centF cc (perF rate.toInt64 days.toInt64 (powF N)))), (.long (rate.toInt64)), (.int (ss % (24 : Int32))), (.long (days.toInt64)), (.int (ydF y)), (.int (pp % (24 : Int32)))]) (rest := []) (lenOf pd_2 rfl) rfl (by show 2 * 0 + _ ≤ _; exact Nat.le_of_eq rfl) (hb hby at_444) (fun _ _ => ⟨rfl, e109, (by decide : 1 + 0 ≤ _), (by decide : 19 + 0 ≤ _)⟩)
  dsimp only [Pt.U, Pt.locs, Pt.cells, Pt.slots] at X110 l110 y110 z110 st110 hQ110
  subst l110 y110 z110
  obtain ⟨rfl, N110q, e110⟩ := hQ110
  have N110 := Fr.app N109 N110q
  obtain ⟨fs, hr, hrun, hended, hW, hsame⟩ := X110.leave (v := some (.int (1 : Int32))) (fun h => by rw [Bd.returns] at h; cases h)
  refine ⟨_, _, pre0 _ ?_, hrun, hended, _, _, rfl, ?_, ⟨_, rfl⟩, hW, hsame.mono (by decide) (by decide)⟩
  · show Steps p.tables e below (s₁.setTop (mkF m 0 #[.val (.long cc), .second, .val (.int rate), .val (.int days), .val (.int y), .val (.int pp), .val (.int ss), .unset, .unset, .unset, .unset, .unset, .unset, .unset, .unset, .unset, .unset, .unset, .unset, .unset, .unset, .unset, .unset, .unset, .unset, .unset, .unset, .unset, .unset, .unset, .unset, .unset] [])) _
    refine stf _ ?_
    show Steps p.tables e below (Tf.setTop (mkF m 131 #[.val (.long cc), .second, .val (.int rate), .val (.int days), .val (.int y), .val (.int pp), .val (.int ss), .val (.ref b), .unset, .unset, .unset, .unset, .unset, .unset, .unset, .unset, .unset, .unset, .unset, .unset, .unset, .unset, .unset, .unset, .unset, .unset, .unset, .unset, .unset, .unset, .unset, .unset] [])) _
    refine Xf.ldc2Long hx hown (mvT hZ (hw _ (List.mem_of_getElem? (i := 19) rfl))) (g := (mkF m 131 #[.val (.long cc), .second, .val (.int rate), .val (.int days), .val (.int y), .val (.int pp), .val (.int ss), .val (.ref b), .unset, .unset, .unset, .unset, .unset, .unset, .unset, .unset, .unset, .unset, .unset, .unset, .unset, .unset, .unset, .unset, .unset, .unset, .unset, .unset, .unset, .unset, .unset, .unset] [])) rfl (hb hby at_131) _ ?_
    refine XS.lstore Xf.here hx rfl (hb hby at_134) rfl (l' := #[.val (.long cc), .second, .val (.int rate), .val (.int days), .val (.int y), .val (.int pp), .val (.int ss), .val (.ref b), .val (.long (9223372036854775807 : Int64)), .second, .unset, .unset, .unset, .unset, .unset, .unset, .unset, .unset, .unset, .unset, .unset, .unset, .unset, .unset, .unset, .unset, .unset, .unset, .unset, .unset, .unset, .unset]) rfl ?_
    refine XS.iconst Xf.here hx rfl (hb hby at_136) ?_
    refine XS.iload Xf.here hx rfl (hb hby at_137) rfl ?_
    refine Xf.ldcInt hx hown (mvT hZ (hw _ (List.mem_of_getElem? (i := 20) rfl))) (g := (mkF m 139 #[.val (.long cc), .second, .val (.int rate), .val (.int days), .val (.int y), .val (.int pp), .val (.int ss), .val (.ref b), .val (.long (9223372036854775807 : Int64)), .second, .unset, .unset, .unset, .unset, .unset, .unset, .unset, .unset, .unset, .unset, .unset, .unset, .unset, .unset, .unset, .unset, .unset, .unset, .unset, .unset, .unset, .unset] [(.int y), (.int (1 : Int32))])) rfl (hb hby at_139) _ ?_
    refine XS.iand Xf.here hx rfl (hb hby at_141) rfl ?_
    show Steps p.tables e below (Tf.setTop (mkF m 142 #[.val (.long cc), .second, .val (.int rate), .val (.int days), .val (.int y), .val (.int pp), .val (.int ss), .val (.ref b), .val (.long (9223372036854775807 : Int64)), .second, .unset, .unset, .unset, .unset, .unset, .unset, .unset, .unset, .unset, .unset, .unset, .unset, .unset, .unset, .unset, .unset, .unset, .unset, .unset, .unset, .unset, .unset] [(.int (y &&& (2147483647 : Int32))), (.int (1 : Int32))])) _
    refine st106 _ ?_
    show Steps p.tables e below (T106.setTop (mkF m 145 #[.val (.long cc), .second, .val (.int rate), .val (.int days), .val (.int y), .val (.int pp), .val (.int ss), .val (.ref b), .val (.long (9223372036854775807 : Int64)), .second, .unset, .unset, .unset, .unset, .unset, .unset, .unset, .unset, .unset, .unset, .unset, .unset, .unset, .unset, .unset, .unset, .unset, .unset, .unset, .unset, .unset, .unset] [(.int (ydF y))])) _
    refine XS.istore X106.here hx rfl (hb hby at_145) rfl (l' := #[.val (.long cc), .second, .val (.int rate), .val (.int days), .val (.int y), .val (.int pp), .val (.int ss), .val (.ref b), .val (.long (9223372036854775807 : Int64)), .second, .val (.int (ydF y)), .unset, .unset, .unset, .unset, .unset, .unset, .unset, .unset, .unset, .unset, .unset, .unset, .unset, .unset, .unset, .unset, .unset, .unset, .unset, .unset, .unset]) rfl ?_
    refine XS.iload X106.here hx rfl (hb hby at_147) rfl ?_
    refine XS.bipush X106.here hx rfl (hb hby at_149) ?_
    refine gwIrem X106.here hx rfl (hb hby at_151) rfl (by decide : ¬ ((24 : Int32) = (0 : Int32))) ?_
    refine XS.istore X106.here hx rfl (hb hby at_152) rfl (l' := #[.val (.long cc), .second, .val (.int rate), .val (.int days), .val (.int y), .val (.int pp), .val (.int ss), .val (.ref b), .val (.long (9223372036854775807 : Int64)), .second, .val (.int (ydF y)), .val (.int (pp % (24 : Int32))), .unset, .unset, .unset, .unset, .unset, .unset, .unset, .unset, .unset, .unset, .unset, .unset, .unset, .unset, .unset, .unset, .unset, .unset, .unset, .unset]) rfl ?_
    refine XS.iload X106.here hx rfl (hb hby at_154) rfl ?_
    refine XS.bipush X106.here hx rfl (hb hby at_156) ?_
    refine gwIrem X106.here hx rfl (hb hby at_158) rfl (by decide : ¬ ((24 : Int32) = (0 : Int32))) ?_
    show Steps p.tables e below (T106.setTop (mkF m 159 #[.val (.long cc), .second, .val (.int rate), .val (.int days), .val (.int y), .val (.int pp), .val (.int ss), .val (.ref b), .val (.long (9223372036854775807 : Int64)), .second, .val (.int (ydF y)), .val (.int (pp % (24 : Int32))), .unset, .unset, .unset, .unset, .unset, .unset, .unset, .unset, .unset, .unset, .unset, .unset, .unset, .unset, .unset, .unset, .unset, .unset, .unset, .unset] [(.int (ss % (24 : Int32)))])) _
    refine XS.istore X106.here hx rfl (hb hby at_159) rfl (l' := #[.val (.long cc), .second, .val (.int rate), .val (.int days), .val (.int y), .val (.int pp), .val (.int ss), .val (.ref b), .val (.long (9223372036854775807 : Int64)), .second, .val (.int (ydF y)), .val (.int (pp % (24 : Int32))), .val (.int (ss % (24 : Int32))), .unset, .unset, .unset, .unset, .unset, .unset, .unset, .unset, .unset, .unset, .unset, .unset, .unset, .unset, .unset, .unset, .unset, .unset, .unset]) rfl ?_
    refine XS.iload X106.here hx rfl (hb hby at_161) rfl ?_
    refine XS.iconst X106.here hx rfl (hb hby at_163) ?_
    refine XS.isub X106.here hx rfl (hb hby at_164) rfl ?_
    refine XS.iload X106.here hx rfl (hb hby at_165) rfl ?_
    refine XS.isub X106.here hx rfl (hb hby at_167) rfl ?_
    show Steps p.tables e below (T106.setTop (mkF m 168 #[.val (.long cc), .second, .val (.int rate), .val (.int days), .val (.int y), .val (.int pp), .val (.int ss), .val (.ref b), .val (.long (9223372036854775807 : Int64)), .second, .val (.int (ydF y)), .val (.int (pp % (24 : Int32))), .val (.int (ss % (24 : Int32))), .unset, .unset, .unset, .unset, .unset, .unset, .unset, .unset, .unset, .unset, .unset, .unset, .unset, .unset, .unset, .unset, .unset, .unset, .unset] [(.int (tL pp ss))])) _
    refine XS.istore X106.here hx rfl (hb hby at_168) rfl (l' := #[.val (.long cc), .second, .val (.int rate), .val (.int days), .val (.int y), .val (.int pp), .val (.int ss), .val (.ref b), .val (.long (9223372036854775807 : Int64)), .second, .val (.int (ydF y)), .val (.int (pp % (24 : Int32))), .val (.int (ss % (24 : Int32))), .val (.int (tL pp ss)), .unset, .unset, .unset, .unset, .unset, .unset, .unset, .unset, .unset, .unset, .unset, .unset, .unset, .unset, .unset, .unset, .unset, .unset]) rfl ?_
    refine XS.iload X106.here hx rfl (hb hby at_170) rfl ?_
    refine XS.bipush X106.here hx rfl (hb hby at_172) ?_
    refine XS.icmpNo X106.here hx rfl (hb hby at_174) rfl (flt hc174).2.2.1 ?_
    refine XS.iload X106.here hx rfl (hb hby at_177) rfl ?_
    refine XS.bipush X106.here hx rfl (hb hby at_179) ?_
    refine XS.icmpYes X106.here hx rfl (pc0 := 181) (pc' := 211) rfl (hb hby at_181) rfl (flt hc181).2.1 (by decide) (by decide) ?_
    refine XS.iloadN X106.here hx rfl (hb hby at_211) rfl ?_
    show Steps p.tables e below (T106.setTop (mkF m 212 #[.val (.long cc), .second, .val (.int rate), .val (.int days), .val (.int y), .val (.int pp), .val (.int ss), .val (.ref b), .val (.long (9223372036854775807 : Int64)), .second, .val (.int (ydF y)), .val (.int (pp % (24 : Int32))), .val (.int (ss % (24 : Int32))), .val (.int (tL pp ss)), .unset, .unset, .unset, .unset, .unset, .unset, .unset, .unset, .unset, .unset, .unset, .unset, .unset, .unset, .unset, .unset, .unset, .unset] [(.int rate)])) _
    refine XS.i2l X106.here hx rfl (hb hby at_212) rfl ?_
    refine XS.iloadN X106.here hx rfl (hb hby at_213) rfl ?_
    refine XS.i2l X106.here hx rfl (hb hby at_214) rfl ?_
    refine XS.lmul X106.here hx rfl (hb hby at_215) rfl ?_
    show Steps p.tables e below (T106.setTop (mkF m 216 #[.val (.long cc), .second, .val (.int rate), .val (.int days), .val (.int y), .val (.int pp), .val (.int ss), .val (.ref b), .val (.long (9223372036854775807 : Int64)), .second, .val (.int (ydF y)), .val (.int (pp % (24 : Int32))), .val (.int (ss % (24 : Int32))), .val (.int (tL pp ss)), .unset, .unset, .unset, .unset, .unset, .unset, .unset, .unset, .unset, .unset, .unset, .unset, .unset, .unset, .unset, .unset, .unset, .unset] [(.long (rdF rate days))])) _
    refine XS.lstore X106.here hx rfl (hb hby at_216) rfl (l' := #[.val (.long cc), .second, .val (.int rate), .val (.int days), .val (.int y), .val (.int pp), .val (.int ss), .val (.ref b), .val (.long (9223372036854775807 : Int64)), .second, .val (.int (ydF y)), .val (.int (pp % (24 : Int32))), .val (.int (ss % (24 : Int32))), .val (.int (tL pp ss)), .val (.long (rdF rate days)), .second, .unset, .unset, .unset, .unset, .unset, .unset, .unset, .unset, .unset, .unset, .unset, .unset, .unset, .unset, .unset, .unset]) rfl ?_
    refine XS.iload X106.here hx rfl (hb hby at_218) rfl ?_
    refine XS.ifNo X106.here hx rfl (hb hby at_220) rfl ((if0 _ _).trans (tlt hc220).2.2.2) ?_
    refine XS.lload X106.here hx rfl (hb hby at_223) rfl ?_
    show Steps p.tables e below (T106.setTop (mkF m 225 #[.val (.long cc), .second, .val (.int rate), .val (.int days), .val (.int y), .val (.int pp), .val (.int ss), .val (.ref b), .val (.long (9223372036854775807 : Int64)), .second, .val (.int (ydF y)), .val (.int (pp % (24 : Int32))), .val (.int (ss % (24 : Int32))), .val (.int (tL pp ss)), .val (.long (rdF rate days)), .second, .unset, .unset, .unset, .unset, .unset, .unset, .unset, .unset, .unset, .unset, .unset, .unset, .unset, .unset, .unset, .unset] [(.long (rdF rate days))])) _
    refine st107 _ ?_
    refine XS.lload X107.here hx rfl (hb hby at_228) rfl ?_
    refine XS.aload X107.here hx rfl (hb hby at_230) rfl rfl ?_
    refine XS.iload X107.here hx rfl (hb hby at_232) rfl ?_
    show Steps p.tables e below (T107.setTop (mkF m 234 #[.val (.long cc), .second, .val (.int rate), .val (.int days), .val (.int y), .val (.int pp), .val (.int ss), .val (.ref b), .val (.long (9223372036854775807 : Int64)), .second, .val (.int (ydF y)), .val (.int (pp % (24 : Int32))), .val (.int (ss % (24 : Int32))), .val (.int (tL pp ss)), .val (.long (rdF rate days)), .second, .unset, .unset, .unset, .unset, .unset, .unset, .unset, .unset, .unset, .unset, .unset, .unset, .unset, .unset, .unset, .unset] [(.int (tL pp ss)), (.ref b), (.long (9223372036854775807 : Int64)), (.long (absL (rdF rate days)))])) _
    refine X107.laload hx (j := (tL pp ss)) (v := (.long (powF N))) (by rw [e107]; exact Ar.1) (State.isArrayOf_alike hZ.alike Ar.2.1) Ar.2.2 hin hat (g := (mkF m 234 #[.val (.long cc), .second, .val (.int rate), .val (.int days), .val (.int y), .val (.int pp), .val (.int ss), .val (.ref b), .val (.long (9223372036854775807 : Int64)), .second, .val (.int (ydF y)), .val (.int (pp % (24 : Int32))), .val (.int (ss % (24 : Int32))), .val (.int (tL pp ss)), .val (.long (rdF rate days)), .second, .unset, .unset, .unset, .unset, .unset, .unset, .unset, .unset, .unset, .unset, .unset, .unset, .unset, .unset, .unset, .unset] [(.int (tL pp ss)), (.ref b), (.long (9223372036854775807 : Int64)), (.long (absL (rdF rate days)))])) rfl rfl (hb hby at_234) _ ?_
    refine XS.ldiv X107.here hx rfl (hb hby at_235) rfl hnz235 ?_
    refine XS.lcmp X107.here hx rfl (hb hby at_236) rfl ?_
    refine XS.ifYes X107.here hx rfl (pc0 := 237) (pc' := 267) rfl (hb hby at_237) rfl ((if0 _ _).trans (flt hc237).2.2.2) (by decide) (by decide) ?_
    refine XS.lload X107.here hx rfl (hb hby at_267) rfl ?_
    refine XS.aload X107.here hx rfl (hb hby at_269) rfl rfl ?_
    refine XS.iload X107.here hx rfl (hb hby at_271) rfl ?_
    show Steps p.tables e below (T107.setTop (mkF m 273 #[.val (.long cc), .second, .val (.int rate), .val (.int days), .val (.int y), .val (.int pp), .val (.int ss), .val (.ref b), .val (.long (9223372036854775807 : Int64)), .second, .val (.int (ydF y)), .val (.int (pp % (24 : Int32))), .val (.int (ss % (24 : Int32))), .val (.int (tL pp ss)), .val (.long (rdF rate days)), .second, .unset, .unset, .unset, .unset, .unset, .unset, .unset, .unset, .unset, .unset, .unset, .unset, .unset, .unset, .unset, .unset] [(.int (tL pp ss)), (.ref b), (.long (rdF rate days))])) _
    refine X107.laload hx (j := (tL pp ss)) (v := (.long (powF N))) (by rw [e107]; exact Ar.1) (State.isArrayOf_alike hZ.alike Ar.2.1) Ar.2.2 hin hat (g := (mkF m 273 #[.val (.long cc), .second, .val (.int rate), .val (.int days), .val (.int y), .val (.int pp), .val (.int ss), .val (.ref b), .val (.long (9223372036854775807 : Int64)), .second, .val (.int (ydF y)), .val (.int (pp % (24 : Int32))), .val (.int (ss % (24 : Int32))), .val (.int (tL pp ss)), .val (.long (rdF rate days)), .second, .unset, .unset, .unset, .unset, .unset, .unset, .unset, .unset, .unset, .unset, .unset, .unset, .unset, .unset, .unset, .unset] [(.int (tL pp ss)), (.ref b), (.long (rdF rate days))])) rfl rfl (hb hby at_273) _ ?_
    refine XS.lmul X107.here hx rfl (hb hby at_274) rfl ?_
    show Steps p.tables e below (T107.setTop (mkF m 275 #[.val (.long cc), .second, .val (.int rate), .val (.int days), .val (.int y), .val (.int pp), .val (.int ss), .val (.ref b), .val (.long (9223372036854775807 : Int64)), .second, .val (.int (ydF y)), .val (.int (pp % (24 : Int32))), .val (.int (ss % (24 : Int32))), .val (.int (tL pp ss)), .val (.long (rdF rate days)), .second, .unset, .unset, .unset, .unset, .unset, .unset, .unset, .unset, .unset, .unset, .unset, .unset, .unset, .unset, .unset, .unset] [(.long (perF rate.toInt64 days.toInt64 (powF N)))])) _
    refine XS.lstore X107.here hx rfl (hb hby at_275) rfl (l' := #[.val (.long cc), .second, .val (.int rate), .val (.int days), .val (.int y), .val (.int pp), .val (.int ss), .val (.ref b), .val (.long (9223372036854775807 : Int64)), .second, .val (.int (ydF y)), .val (.int (pp % (24 : Int32))), .val (.int (ss % (24 : Int32))), .val (.int (tL pp ss)), .val (.long (rdF rate days)), .second, .val (.long (perF rate.toInt64 days.toInt64 (powF N))), .second, .unset, .unset, .unset, .unset, .unset, .unset, .unset, .unset, .unset, .unset, .unset, .unset, .unset, .unset]) rfl ?_
    refine XS.iload X107.here hx rfl (hb hby at_277) rfl ?_
    refine XS.i2l X107.here hx rfl (hb hby at_279) rfl ?_
    refine XS.lstore X107.here hx rfl (hb hby at_280) rfl (l' := #[.val (.long cc), .second, .val (.int rate), .val (.int days), .val (.int y), .val (.int pp), .val (.int ss), .val (.ref b), .val (.long (9223372036854775807 : Int64)), .second, .val (.int (ydF y)), .val (.int (pp % (24 : Int32))), .val (.int (ss % (24 : Int32))), .val (.int (tL pp ss)), .val (.long (rdF rate days)), .second, .val (.long (perF rate.toInt64 days.toInt64 (powF N))), .second, .val (.long ((ydF y).toInt64)), .second, .unset, .unset, .unset, .unset, .unset, .unset, .unset, .unset, .unset, .unset, .unset, .unset]) rfl ?_
    refine XS.goto X107.here hx rfl (pc0 := 282) (pc' := 347) rfl (hb hby at_282) (by decide) (by decide) ?_
    refine XS.lload X107.here hx rfl (hb hby at_347) rfl ?_
    refine XS.lconst X107.here hx rfl (hb hby at_349) ?_
    refine XS.lcmp X107.here hx rfl (hb hby at_350) rfl ?_
    show Steps p.tables e below (T107.setTop (mkF m 351 #[.val (.long cc), .second, .val (.int rate), .val (.int days), .val (.int y), .val (.int pp), .val (.int ss), .val (.ref b), .val (.long (9223372036854775807 : Int64)), .second, .val (.int (ydF y)), .val (.int (pp % (24 : Int32))), .val (.int (ss % (24 : Int32))), .val (.int (tL pp ss)), .val (.long (rdF rate days)), .second, .val (.long (perF rate.toInt64 days.toInt64 (powF N))), .second, .val (.long ((ydF y).toInt64)), .second, .unset, .unset, .unset, .unset, .unset, .unset, .unset, .unset, .unset, .unset, .unset, .unset] [(.int (lcmpW (perF rate.toInt64 days.toInt64 (powF N)) (0 : Int64)))])) _
    refine XS.ifYes X107.here hx rfl (pc0 := 351) (pc' := 358) rfl (hb hby at_351) rfl ((if0 _ _).trans (feq hc351).2) (by decide) (by decide) ?_
    refine XS.lloadN X107.here hx rfl (hb hby at_358) rfl ?_
    refine XS.lload X107.here hx rfl (hb hby at_359) rfl ?_
    refine XS.lload X107.here hx rfl (hb hby at_361) rfl ?_
    show Steps p.tables e below (T107.setTop (mkF m 363 #[.val (.long cc), .second, .val (.int rate), .val (.int days), .val (.int y), .val (.int pp), .val (.int ss), .val (.ref b), .val (.long (9223372036854775807 : Int64)), .second, .val (.int (ydF y)), .val (.int (pp % (24 : Int32))), .val (.int (ss % (24 : Int32))), .val (.int (tL pp ss)), .val (.long (rdF rate days)), .second, .val (.long (perF rate.toInt64 days.toInt64 (powF N))), .second, .val (.long ((ydF y).toInt64)), .second, .unset, .unset, .unset, .unset, .unset, .unset, .unset, .unset, .unset, .unset, .unset, .unset] [(.long (perF rate.toInt64 days.toInt64 (powF N))), (.long (9223372036854775807 : Int64)), (.long cc)])) _
    refine st108 _ ?_
    refine XS.ldiv X108.here hx rfl (hb hby at_366) rfl hnz366 ?_
    refine gwLrem X108.here hx rfl (hb hby at_367) rfl hnz367 ?_
    show Steps p.tables e below (T108.setTop (mkF m 368 #[.val (.long cc), .second, .val (.int rate), .val (.int days), .val (.int y), .val (.int pp), .val (.int ss), .val (.ref b), .val (.long (9223372036854775807 : Int64)), .second, .val (.int (ydF y)), .val (.int (pp % (24 : Int32))), .val (.int (ss % (24 : Int32))), .val (.int (tL pp ss)), .val (.long (rdF rate days)), .second, .val (.long (perF rate.toInt64 days.toInt64 (powF N))), .second, .val (.long ((ydF y).toInt64)), .second, .unset, .unset, .unset, .unset, .unset, .unset, .unset, .unset, .unset, .unset, .unset, .unset] [(.long (centF cc (perF rate.toInt64 days.toInt64 (powF N))))])) _
    refine XS.lstore X108.here hx rfl (hb hby at_368) rfl (l' := #[.val (.long cc), .second, .val (.int rate), .val (.int days), .val (.int y), .val (.int pp), .val (.int ss), .val (.ref b), .val (.long (9223372036854775807 : Int64)), .second, .val (.int (ydF y)), .val (.int (pp % (24 : Int32))), .val (.int (ss % (24 : Int32))), .val (.int (tL pp ss)), .val (.long (rdF rate days)), .second, .val (.long (perF rate.toInt64 days.toInt64 (powF N))), .second, .val (.long ((ydF y).toInt64)), .second, .val (.long (centF cc (perF rate.toInt64 days.toInt64 (powF N)))), .second, .unset, .unset, .unset, .unset, .unset, .unset, .unset, .unset, .unset, .unset]) rfl ?_
    refine XS.lload X108.here hx rfl (hb hby at_370) rfl ?_
    refine XS.lload X108.here hx rfl (hb hby at_372) rfl ?_
    refine XS.lmul X108.here hx rfl (hb hby at_374) rfl ?_
    refine XS.lstore X108.here hx rfl (hb hby at_375) rfl (l' := #[.val (.long cc), .second, .val (.int rate), .val (.int days), .val (.int y), .val (.int pp), .val (.int ss), .val (.ref b), .val (.long (9223372036854775807 : Int64)), .second, .val (.int (ydF y)), .val (.int (pp % (24 : Int32))), .val (.int (ss % (24 : Int32))), .val (.int (tL pp ss)), .val (.long (rdF rate days)), .second, .val (.long (perF rate.toInt64 days.toInt64 (powF N))), .second, .val (.long ((ydF y).toInt64)), .second, .val (.long (centF cc (perF rate.toInt64 days.toInt64 (powF N)))), .second, .val (.long ((centF cc (perF rate.toInt64 days.toInt64 (powF N))) * (perF rate.toInt64 days.toInt64 (powF N)))), .second, .unset, .unset, .unset, .unset, .unset, .unset, .unset, .unset]) rfl ?_
    refine XS.lload X108.here hx rfl (hb hby at_377) rfl ?_
    refine XS.lload X108.here hx rfl (hb hby at_379) rfl ?_
    refine XS.ldiv X108.here hx rfl (hb hby at_381) rfl hnz381 ?_
    show Steps p.tables e below (T108.setTop (mkF m 382 #[.val (.long cc), .second, .val (.int rate), .val (.int days), .val (.int y), .val (.int pp), .val (.int ss), .val (.ref b), .val (.long (9223372036854775807 : Int64)), .second, .val (.int (ydF y)), .val (.int (pp % (24 : Int32))), .val (.int (ss % (24 : Int32))), .val (.int (tL pp ss)), .val (.long (rdF rate days)), .second, .val (.long (perF rate.toInt64 days.toInt64 (powF N))), .second, .val (.long ((ydF y).toInt64)), .second, .val (.long (centF cc (perF rate.toInt64 days.toInt64 (powF N)))), .second, .val (.long ((centF cc (perF rate.toInt64 days.toInt64 (powF N))) * (perF rate.toInt64 days.toInt64 (powF N)))), .second, .unset, .unset, .unset, .unset, .unset, .unset, .unset, .unset] [(.long (((centF cc (perF rate.toInt64 days.toInt64 (powF N))) * (perF rate.toInt64 days.toInt64 (powF N))) / ((ydF y).toInt64)))])) _
    refine XS.lstore X108.here hx rfl (hb hby at_382) rfl (l' := #[.val (.long cc), .second, .val (.int rate), .val (.int days), .val (.int y), .val (.int pp), .val (.int ss), .val (.ref b), .val (.long (9223372036854775807 : Int64)), .second, .val (.int (ydF y)), .val (.int (pp % (24 : Int32))), .val (.int (ss % (24 : Int32))), .val (.int (tL pp ss)), .val (.long (rdF rate days)), .second, .val (.long (perF rate.toInt64 days.toInt64 (powF N))), .second, .val (.long ((ydF y).toInt64)), .second, .val (.long (centF cc (perF rate.toInt64 days.toInt64 (powF N)))), .second, .val (.long ((centF cc (perF rate.toInt64 days.toInt64 (powF N))) * (perF rate.toInt64 days.toInt64 (powF N)))), .second, .val (.long (((centF cc (perF rate.toInt64 days.toInt64 (powF N))) * (perF rate.toInt64 days.toInt64 (powF N))) / ((ydF y).toInt64))), .second, .unset, .unset, .unset, .unset, .unset, .unset]) rfl ?_
    refine XS.lload X108.here hx rfl (hb hby at_384) rfl ?_
    refine XS.lload X108.here hx rfl (hb hby at_386) rfl ?_
    refine gwLrem X108.here hx rfl (hb hby at_388) rfl hnz388 ?_
    show Steps p.tables e below (T108.setTop (mkF m 389 #[.val (.long cc), .second, .val (.int rate), .val (.int days), .val (.int y), .val (.int pp), .val (.int ss), .val (.ref b), .val (.long (9223372036854775807 : Int64)), .second, .val (.int (ydF y)), .val (.int (pp % (24 : Int32))), .val (.int (ss % (24 : Int32))), .val (.int (tL pp ss)), .val (.long (rdF rate days)), .second, .val (.long (perF rate.toInt64 days.toInt64 (powF N))), .second, .val (.long ((ydF y).toInt64)), .second, .val (.long (centF cc (perF rate.toInt64 days.toInt64 (powF N)))), .second, .val (.long ((centF cc (perF rate.toInt64 days.toInt64 (powF N))) * (perF rate.toInt64 days.toInt64 (powF N)))), .second, .val (.long (((centF cc (perF rate.toInt64 days.toInt64 (powF N))) * (perF rate.toInt64 days.toInt64 (powF N))) / ((ydF y).toInt64))), .second, .unset, .unset, .unset, .unset, .unset, .unset] [(.long (((centF cc (perF rate.toInt64 days.toInt64 (powF N))) * (perF rate.toInt64 days.toInt64 (powF N))) % ((ydF y).toInt64)))])) _
    refine st109 _ ?_
    refine XS.lstore X109.here hx rfl (hb hby at_392) rfl (l' := #[.val (.long cc), .second, .val (.int rate), .val (.int days), .val (.int y), .val (.int pp), .val (.int ss), .val (.ref b), .val (.long (9223372036854775807 : Int64)), .second, .val (.int (ydF y)), .val (.int (pp % (24 : Int32))), .val (.int (ss % (24 : Int32))), .val (.int (tL pp ss)), .val (.long (rdF rate days)), .second, .val (.long (perF rate.toInt64 days.toInt64 (powF N))), .second, .val (.long ((ydF y).toInt64)), .second, .val (.long (centF cc (perF rate.toInt64 days.toInt64 (powF N)))), .second, .val (.long ((centF cc (perF rate.toInt64 days.toInt64 (powF N))) * (perF rate.toInt64 days.toInt64 (powF N)))), .second, .val (.long (((centF cc (perF rate.toInt64 days.toInt64 (powF N))) * (perF rate.toInt64 days.toInt64 (powF N))) / ((ydF y).toInt64))), .second, .val (.long (absL (((centF cc (perF rate.toInt64 days.toInt64 (powF N))) * (perF rate.toInt64 days.toInt64 (powF N))) % ((ydF y).toInt64)))), .second, .unset, .unset, .unset, .unset]) rfl ?_
    refine XS.lload X109.here hx rfl (hb hby at_394) rfl ?_
    refine XS.lload X109.here hx rfl (hb hby at_396) rfl ?_
    refine XS.lload X109.here hx rfl (hb hby at_398) rfl ?_
    refine XS.lsub X109.here hx rfl (hb hby at_400) rfl ?_
    refine XS.lcmp X109.here hx rfl (hb hby at_401) rfl ?_
    refine XS.ifNo X109.here hx rfl (hb hby at_402) rfl ((if0 _ _).trans (flt hc402).1) ?_
    show Steps p.tables e below (T109.setTop (mkF m 405 #[.val (.long cc), .second, .val (.int rate), .val (.int days), .val (.int y), .val (.int pp), .val (.int ss), .val (.ref b), .val (.long (9223372036854775807 : Int64)), .second, .val (.int (ydF y)), .val (.int (pp % (24 : Int32))), .val (.int (ss % (24 : Int32))), .val (.int (tL pp ss)), .val (.long (rdF rate days)), .second, .val (.long (perF rate.toInt64 days.toInt64 (powF N))), .second, .val (.long ((ydF y).toInt64)), .second, .val (.long (centF cc (perF rate.toInt64 days.toInt64 (powF N)))), .second, .val (.long ((centF cc (perF rate.toInt64 days.toInt64 (powF N))) * (perF rate.toInt64 days.toInt64 (powF N)))), .second, .val (.long (((centF cc (perF rate.toInt64 days.toInt64 (powF N))) * (perF rate.toInt64 days.toInt64 (powF N))) / ((ydF y).toInt64))), .second, .val (.long (absL (((centF cc (perF rate.toInt64 days.toInt64 (powF N))) * (perF rate.toInt64 days.toInt64 (powF N))) % ((ydF y).toInt64)))), .second, .unset, .unset, .unset, .unset] [])) _
    refine XS.lload X109.here hx rfl (hb hby at_405) rfl ?_
    refine XS.lconst X109.here hx rfl (hb hby at_407) ?_
    refine XS.lcmp X109.here hx rfl (hb hby at_408) rfl ?_
    refine XS.ifYes X109.here hx rfl (pc0 := 409) (pc' := 416) rfl (hb hby at_409) rfl ((if0 _ _).trans (flt hc409).2.2.2) (by decide) (by decide) ?_
    refine X109.ldc2Long hx hown (mvT hZ (hw _ (List.mem_of_getElem? (i := 54) rfl))) (g := (mkF m 416 #[.val (.long cc), .second, .val (.int rate), .val (.int days), .val (.int y), .val (.int pp), .val (.int ss), .val (.ref b), .val (.long (9223372036854775807 : Int64)), .second, .val (.int (ydF y)), .val (.int (pp % (24 : Int32))), .val (.int (ss % (24 : Int32))), .val (.int (tL pp ss)), .val (.long (rdF rate days)), .second, .val (.long (perF rate.toInt64 days.toInt64 (powF N))), .second, .val (.long ((ydF y).toInt64)), .second, .val (.long (centF cc (perF rate.toInt64 days.toInt64 (powF N)))), .second, .val (.long ((centF cc (perF rate.toInt64 days.toInt64 (powF N))) * (perF rate.toInt64 days.toInt64 (powF N)))), .second, .val (.long (((centF cc (perF rate.toInt64 days.toInt64 (powF N))) * (perF rate.toInt64 days.toInt64 (powF N))) / ((ydF y).toInt64))), .second, .val (.long (absL (((centF cc (perF rate.toInt64 days.toInt64 (powF N))) * (perF rate.toInt64 days.toInt64 (powF N))) % ((ydF y).toInt64)))), .second, .unset, .unset, .unset, .unset] [])) rfl (hb hby at_416) _ ?_
    refine XS.goto X109.here hx rfl (pc0 := 419) (pc' := 423) rfl (hb hby at_419) (by decide) (by decide) ?_
    refine XS.lstore X109.here hx rfl (hb hby at_423) rfl (l' := #[.val (.long cc), .second, .val (.int rate), .val (.int days), .val (.int y), .val (.int pp), .val (.int ss), .val (.ref b), .val (.long (9223372036854775807 : Int64)), .second, .val (.int (ydF y)), .val (.int (pp % (24 : Int32))), .val (.int (ss % (24 : Int32))), .val (.int (tL pp ss)), .val (.long (rdF rate days)), .second, .val (.long (perF rate.toInt64 days.toInt64 (powF N))), .second, .val (.long ((ydF y).toInt64)), .second, .val (.long (centF cc (perF rate.toInt64 days.toInt64 (powF N)))), .second, .val (.long ((centF cc (perF rate.toInt64 days.toInt64 (powF N))) * (perF rate.toInt64 days.toInt64 (powF N)))), .second, .val (.long (((centF cc (perF rate.toInt64 days.toInt64 (powF N))) * (perF rate.toInt64 days.toInt64 (powF N))) / ((ydF y).toInt64))), .second, .val (.long (absL (((centF cc (perF rate.toInt64 days.toInt64 (powF N))) * (perF rate.toInt64 days.toInt64 (powF N))) % ((ydF y).toInt64)))), .second, .val (.long (-1 : Int64)), .second, .unset, .unset]) rfl ?_
    refine XS.lload X109.here hx rfl (hb hby at_425) rfl ?_
    show Steps p.tables e below (T109.setTop (mkF m 427 #[.val (.long cc), .second, .val (.int rate), .val (.int days), .val (.int y), .val (.int pp), .val (.int ss), .val (.ref b), .val (.long (9223372036854775807 : Int64)), .second, .val (.int (ydF y)), .val (.int (pp % (24 : Int32))), .val (.int (ss % (24 : Int32))), .val (.int (tL pp ss)), .val (.long (rdF rate days)), .second, .val (.long (perF rate.toInt64 days.toInt64 (powF N))), .second, .val (.long ((ydF y).toInt64)), .second, .val (.long (centF cc (perF rate.toInt64 days.toInt64 (powF N)))), .second, .val (.long ((centF cc (perF rate.toInt64 days.toInt64 (powF N))) * (perF rate.toInt64 days.toInt64 (powF N)))), .second, .val (.long (((centF cc (perF rate.toInt64 days.toInt64 (powF N))) * (perF rate.toInt64 days.toInt64 (powF N))) / ((ydF y).toInt64))), .second, .val (.long (absL (((centF cc (perF rate.toInt64 days.toInt64 (powF N))) * (perF rate.toInt64 days.toInt64 (powF N))) % ((ydF y).toInt64)))), .second, .val (.long (-1 : Int64)), .second, .unset, .unset] [(.long (((centF cc (perF rate.toInt64 days.toInt64 (powF N))) * (perF rate.toInt64 days.toInt64 (powF N))) / ((ydF y).toInt64)))])) _
    refine XS.lload X109.here hx rfl (hb hby at_427) rfl ?_
    refine XS.ladd X109.here hx rfl (hb hby at_429) rfl ?_
    refine XS.lstore X109.here hx rfl (hb hby at_430) rfl (l' := #[.val (.long cc), .second, .val (.int rate), .val (.int days), .val (.int y), .val (.int pp), .val (.int ss), .val (.ref b), .val (.long (9223372036854775807 : Int64)), .second, .val (.int (ydF y)), .val (.int (pp % (24 : Int32))), .val (.int (ss % (24 : Int32))), .val (.int (tL pp ss)), .val (.long (rdF rate days)), .second, .val (.long (perF rate.toInt64 days.toInt64 (powF N))), .second, .val (.long ((ydF y).toInt64)), .second, .val (.long (centF cc (perF rate.toInt64 days.toInt64 (powF N)))), .second, .val (.long ((centF cc (perF rate.toInt64 days.toInt64 (powF N))) * (perF rate.toInt64 days.toInt64 (powF N)))), .second, .val (.long (((centF cc (perF rate.toInt64 days.toInt64 (powF N))) * (perF rate.toInt64 days.toInt64 (powF N))) / ((ydF y).toInt64))), .second, .val (.long (absL (((centF cc (perF rate.toInt64 days.toInt64 (powF N))) * (perF rate.toInt64 days.toInt64 (powF N))) % ((ydF y).toInt64)))), .second, .val (.long (-1 : Int64)), .second, .val (.long ((((centF cc (perF rate.toInt64 days.toInt64 (powF N))) * (perF rate.toInt64 days.toInt64 (powF N))) / ((ydF y).toInt64)) + (-1 : Int64))), .second]) rfl ?_
    refine XS.lload X109.here hx rfl (hb hby at_432) rfl ?_
    refine XS.iloadN X109.here hx rfl (hb hby at_434) rfl ?_
    refine XS.i2l X109.here hx rfl (hb hby at_435) rfl ?_
    refine XS.iload X109.here hx rfl (hb hby at_436) rfl ?_
    refine XS.iloadN X109.here hx rfl (hb hby at_438) rfl ?_
    show Steps p.tables e below (T109.setTop (mkF m 439 #[.val (.long cc), .second, .val (.int rate), .val (.int days), .val (.int y), .val (.int pp), .val (.int ss), .val (.ref b), .val (.long (9223372036854775807 : Int64)), .second, .val (.int (ydF y)), .val (.int (pp % (24 : Int32))), .val (.int (ss % (24 : Int32))), .val (.int (tL pp ss)), .val (.long (rdF rate days)), .second, .val (.long (perF rate.toInt64 days.toInt64 (powF N))), .second, .val (.long ((ydF y).toInt64)), .second, .val (.long (centF cc (perF rate.toInt64 days.toInt64 (powF N)))), .second, .val (.long ((centF cc (perF rate.toInt64 days.toInt64 (powF N))) * (perF rate.toInt64 days.toInt64 (powF N)))), .second, .val (.long (((centF cc (perF rate.toInt64 days.toInt64 (powF N))) * (perF rate.toInt64 days.toInt64 (powF N))) / ((ydF y).toInt64))), .second, .val (.long (absL (((centF cc (perF rate.toInt64 days.toInt64 (powF N))) * (perF rate.toInt64 days.toInt64 (powF N))) % ((ydF y).toInt64)))), .second, .val (.long (-1 : Int64)), .second, .val (.long ((((centF cc (perF rate.toInt64 days.toInt64 (powF N))) * (perF rate.toInt64 days.toInt64 (powF N))) / ((ydF y).toInt64)) + (-1 : Int64))), .second] [(.int days), (.int (ss % (24 : Int32))), (.long (rate.toInt64)), (.long (centF cc (perF rate.toInt64 days.toInt64 (powF N))))])) _
    refine XS.i2l X109.here hx rfl (hb hby at_439) rfl ?_
    refine XS.iload X109.here hx rfl (hb hby at_440) rfl ?_
    refine XS.iload X109.here hx rfl (hb hby at_442) rfl ?_
    show Steps p.tables e below (T109.setTop (mkF m 444 #[.val (.long cc), .second, .val (.int rate), .val (.int days), .val (.int y), .val (.int pp), .val (.int ss), .val (.ref b), .val (.long (9223372036854775807 : Int64)), .second, .val (.int (ydF y)), .val (.int (pp % (24 : Int32))), .val (.int (ss % (24 : Int32))), .val (.int (tL pp ss)), .val (.long (rdF rate days)), .second, .val (.long (perF rate.toInt64 days.toInt64 (powF N))), .second, .val (.long ((ydF y).toInt64)), .second, .val (.long (centF cc (perF rate.toInt64 days.toInt64 (powF N)))), .second, .val (.long ((centF cc (perF rate.toInt64 days.toInt64 (powF N))) * (perF rate.toInt64 days.toInt64 (powF N)))), .second, .val (.long (((centF cc (perF rate.toInt64 days.toInt64 (powF N))) * (perF rate.toInt64 days.toInt64 (powF N))) / ((ydF y).toInt64))), .second, .val (.long (absL (((centF cc (perF rate.toInt64 days.toInt64 (powF N))) * (perF rate.toInt64 days.toInt64 (powF N))) % ((ydF y).toInt64)))), .second, .val (.long (-1 : Int64)), .second, .val (.long ((((centF cc (perF rate.toInt64 days.toInt64 (powF N))) * (perF rate.toInt64 days.toInt64 (powF N))) / ((ydF y).toInt64)) + (-1 : Int64))), .second] [(.int (pp % (24 : Int32))), (.int (ydF y)), (.long (days.toInt64)), (.int (ss % (24 : Int32))), (.long (rate.toInt64)), (.long (centF cc (perF rate.toInt64 days.toInt64 (powF N))))])) _
    refine st110 _ ?_
    refine XS.lload X110.here hx rfl (hb hby at_447) rfl ?_
    refine XS.lcmp X110.here hx rfl (hb hby at_449) rfl ?_
    refine XS.ifNo X110.here hx rfl (hb hby at_450) rfl ((if0 _ _).trans (teq hc450).2) ?_
    refine XS.iconst X110.here hx rfl (hb hby at_453) ?_
    refine XS.goto X110.here hx rfl (pc0 := 454) (pc' := 458) rfl (hb hby at_454) (by decide) (by decide) ?_
    show Steps p.tables e below (T110.setTop (mkF m 458 #[.val (.long cc), .second, .val (.int rate), .val (.int days), .val (.int y), .val (.int pp), .val (.int ss), .val (.ref b), .val (.long (9223372036854775807 : Int64)), .second, .val (.int (ydF y)), .val (.int (pp % (24 : Int32))), .val (.int (ss % (24 : Int32))), .val (.int (tL pp ss)), .val (.long (rdF rate days)), .second, .val (.long (perF rate.toInt64 days.toInt64 (powF N))), .second, .val (.long ((ydF y).toInt64)), .second, .val (.long (centF cc (perF rate.toInt64 days.toInt64 (powF N)))), .second, .val (.long ((centF cc (perF rate.toInt64 days.toInt64 (powF N))) * (perF rate.toInt64 days.toInt64 (powF N)))), .second, .val (.long (((centF cc (perF rate.toInt64 days.toInt64 (powF N))) * (perF rate.toInt64 days.toInt64 (powF N))) / ((ydF y).toInt64))), .second, .val (.long (absL (((centF cc (perF rate.toInt64 days.toInt64 (powF N))) * (perF rate.toInt64 days.toInt64 (powF N))) % ((ydF y).toInt64)))), .second, .val (.long (-1 : Int64)), .second, .val (.long ((((centF cc (perF rate.toInt64 days.toInt64 (powF N))) * (perF rate.toInt64 days.toInt64 (powF N))) / ((ydF y).toInt64)) + (-1 : Int64))), .second] [(.int (1 : Int32))])) _
    exact retN X110 hx (t := .boolean) Bd.returns (by simp) (hb hby at_458) hr
  · show Q0  h0 n0 _ T110.heap _
    exact ⟨rfl, N110⟩
set_option maxRecDepth 65536 in
set_option maxHeartbeats 40000000 in
theorem rm0_Nz (l : Launch) (Z : State) (a0 : Array Value) (hw : ∀ d ∈ tables_1, d.before a0 Z = true) (ws : List Jvm.Cond) (cc : Int64) (rate : Int32) (days : Int32) (y : Int32) (pp : Int32) (ss : Int32) (N : Nat) (h0 : Heap) (n0 : Nat) (Z0 : n0 ≤ h0.size) (hj : (-(tL pp ss)) = Int32.ofNat N) (hj1 : N < 19) (hc174 : ¬ ((18 : Int32) < (tL pp ss))) (hc181 : ¬ ((tL pp ss) < (-18 : Int32))) (hc220 : ¬ ((0 : Int32) < (tL pp ss))) (hnz300 : ¬ ((powF N) = (0 : Int64))) (hc302 : ¬ ((0 : Int32) < (lcmpW ((ydF y).toInt64) ((9223372036854775807 : Int64) / (powF N))))) (hc351 : (lcmpW (rdF rate days) (0 : Int64)) = (0 : Int32)) (hnz381 : ¬ ((divF (ydF y) (powF N)) = (0 : Int64))) (hnz388 : ¬ ((divF (ydF y) (powF N)) = (0 : Int64))) (hc402 : (lcmpW (absL ((cc * (rdF rate days)) % (divF (ydF y) (powF N)))) ((divF (ydF y) (powF N)) - (absL ((cc * (rdF rate days)) % (divF (ydF y) (powF N)))))) < (0 : Int32)) (hN : absI (tA (pp % (24 : Int32)) (ss % (24 : Int32))) = Int32.ofNat N) (hN1 : N < 100) (fhc18 : ¬ ((18 : Int32) < (absI (tA (pp % (24 : Int32)) (ss % (24 : Int32)))))) (fhc37 : ¬ ((0 : Int32) < (tA (pp % (24 : Int32)) (ss % (24 : Int32))))) (fhc50 : ¬ ((0 : Int32) < (tA (pp % (24 : Int32)) (ss % (24 : Int32))))) (fhc67 : ¬ ((proF (rate.toInt64) (days.toInt64)) = (0 : Int32))) (fhc79 : ¬ ((proF ((rate.toInt64) * (days.toInt64)) (1 : Int64)) = (0 : Int32))) (fhc90 : ¬ ((proF ((ydF y).toInt64) (powF N)) = (0 : Int32))) (fhnz118 : ¬ ((divF (ydF y) (powF N)) = (0 : Int64))) (fhnz125 : ¬ ((divF (ydF y) (powF N)) = (0 : Int64))) (fhc134 : ¬ ((proF cc ((perF (rate.toInt64) (days.toInt64) (1 : Int64)) / (divF (ydF y) (powF N)))) = (0 : Int32))) (fhc143 : ¬ ((proF cc ((perF (rate.toInt64) (days.toInt64) (1 : Int64)) % (divF (ydF y) (powF N)))) = (0 : Int32))) (fhnz162 : ¬ ((divF (ydF y) (powF N)) = (0 : Int64))) (fhnz171 : ¬ ((divF (ydF y) (powF N)) = (0 : Int64))) (fhc185 : (lcmpW (remF cc ((perF (rate.toInt64) (days.toInt64) (1 : Int64)) % (divF (ydF y) (powF N))) (divF (ydF y) (powF N))) ((divF (ydF y) (powF N)) - (remF cc ((perF (rate.toInt64) (days.toInt64) (1 : Int64)) % (divF (ydF y) (powF N))) (divF (ydF y) (powF N))))) < (0 : Int32)) (fhc212 : ¬ ((sumF (cc * ((perF (rate.toInt64) (days.toInt64) (1 : Int64)) / (divF (ydF y) (powF N)))) ((cc * ((perF (rate.toInt64) (days.toInt64) (1 : Int64)) % (divF (ydF y) (powF N)))) / (divF (ydF y) (powF N)))) = (0 : Int32))) (fhc225 : ¬ ((sumF ((cc * ((perF (rate.toInt64) (days.toInt64) (1 : Int64)) / (divF (ydF y) (powF N)))) + ((cc * ((perF (rate.toInt64) (days.toInt64) (1 : Int64)) % (divF (ydF y) (powF N)))) / (divF (ydF y) (powF N)))) (0 : Int64)) = (0 : Int32))) (hc450 : (lcmpW (sum3 (cc * ((perF (rate.toInt64) (days.toInt64) (1 : Int64)) / (divF (ydF y) (powF N)))) ((cc * ((perF (rate.toInt64) (days.toInt64) (1 : Int64)) % (divF (ydF y) (powF N)))) / (divF (ydF y) (powF N))) (0 : Int64)) (((cc * (rdF rate days)) / (divF (ydF y) (powF N))) + (0 : Int64))) = (0 : Int32)) :
    MetFree l x (head1 (Jvm.Cond.code x code maxLocals ret :: ws) room_1) (fun aa U => aa = #[(.long cc), (.int rate), (.int days), (.int y), (.int pp), (.int ss)] ∧ Z.Warmed39 U.vm ∧ U.heap = h0) (fun _ _ _ _ _ => True) (fun _ U o U' => ∃ v L, o = .returned v ∧ Q0  h0 n0 v U'.heap L ∧ FrameEnd U o U' L room_1.cells room_1.slots) := by
  refine MetFree.of_bodySF (plainFor_of_name pn_0) hisR ?_
  intro p e s m args below meth c s₁ Bd hml0 hP hK
  obtain ⟨rfl, hZ, hh⟩ := hP
  have hx := Bd.exec
  have hby := Bd.bytes
  have hml : c.maxLocals = 32 := hml0
  have hown : s.vm.findClass "com/example/syndicata/syndicata/AccrualAccruedUnitsPinLaw" = some m.cls := findClass_of_methodNamed Bd.named
  have hnm := (name_of_methodNamed Bd.named Bd.method).1
  have X0 : Stand p l e room_1 s m #[(.long cc), (.int rate), (.int days), (.int y), (.int pp), (.int ss)] below meth c s₁ [] 0 0 := Stand.of_body Bd
  have e0 : s₁.heap = h0 := by rw [← hh, Bd.state]; rfl
  have N0 := Fr.nil n0
  have pre0 : ∀ zz, Steps p.tables e below (s₁.setTop (mkF m 0 #[.val (.long cc), .second, .val (.int rate), .val (.int days), .val (.int y), .val (.int pp), .val (.int ss), .unset, .unset, .unset, .unset, .unset, .unset, .unset, .unset, .unset, .unset, .unset, .unset, .unset, .unset, .unset, .unset, .unset, .unset, .unset, .unset, .unset, .unset, .unset, .unset, .unset] [])) zz → Steps p.tables e below (s₁.setTop (entryFrame m #[(.long cc), (.int rate), (.int days), (.int y), (.int pp), (.int ss)] maxLocals)) zz := fun zz k => castTop (ef_0 m cc rate days y pp ss) k
  obtain ⟨Tf, hf1, b, kk, locs1, Xf, ef, Zf, Vf, Nf, stf⟩ := fill0 (n0 := n0) cc rate days y pp ss X0 hx hZ hw hby hown e0 Z0
  obtain ⟨cl, Ar, q_, S_, N_, H_, G_⟩ := Vf
  have hjc : ((-(tL pp ss))).toNatClampNeg = N := by rw [hj]; exact ofNat_clamp (by omega)
  have hsz : cl.slots.size = 19 := S_
  have hin : ¬ ((-(tL pp ss)) < 0 ∨ cl.slots.size ≤ ((-(tL pp ss))).toNatClampNeg) := by rw [hjc, hsz]; exact fun q => q.elim (by rw [hj]; exact ofNat_nn (by omega)) (fun q => absurd q (by omega))
  have hat : cl.slots[((-(tL pp ss))).toNatClampNeg]? = some (.long (powF N)) := by rw [hjc, H_ N (by omega), tens_at N hj1]
  obtain ⟨_, _, ⟨T111, L111, k111, n111⟩, -, X111, ⟨Lc111, hQ111, l111, y111, z111⟩, st111⟩ := Jvm.LawKit.callS Xf hx (y := (⟨"java/lang/Math", "max", "(II)I"⟩ : MethodName)) hown (mvT hZ (hw _ (List.mem_of_getElem? (i := 21) rfl))) (mvT hZ (hw _ (List.mem_of_getElem? (i := 22) rfl))) (mvT hZ (hw _ (List.mem_of_getElem? (i := 23) rfl))) (mvT hZ (hw _ (List.mem_of_getElem? (i := 24) rfl))) (by decide) (backOf (W := 0) (rm1 l Z a0 hw [] (1 : Int32) (y &&& (2147483647 : Int32)) hf1 n0 Zf) hZ (hw _ (List.mem_of_getElem? (i := 24) rfl)) (hw _ (List.mem_of_getElem? (i := 23) rfl)) (by decide) (by decide)) (g := (mkF m 142 #[.val (.long cc), .second, .val (.int rate), .val (.int days), .val (.int y), .val (.int pp), .val (.int ss), .val (.ref b), .val (.long (9223372036854775807 : Int64)), .second, .unset, .unset, .unset, .unset, .unset, .unset, .unset, .unset, .unset, .unset, .unset, .unset, .unset, .unset, .unset, .unset, .unset, .unset, .unset, .unset, .unset, .unset] [(.int (y &&& (2147483647 : Int32))), (.int (1 : Int32))])) rfl (by rw [hml]; rfl) (argsL := [(.int (1 : Int32)), (.int (y &&& (2147483647 : Int32)))]) (rest := []) (lenOf pd_0 rfl) rfl (by show 2 * 0 + _ ≤ _; exact Nat.le_of_eq rfl) (hb hby at_142) (fun _ _ => ⟨rfl, ef, (by decide : 1 + 0 ≤ _), (by decide : 19 + 0 ≤ _)⟩)
  dsimp only [Pt.U, Pt.locs, Pt.cells, Pt.slots] at X111 l111 y111 z111 st111 hQ111
  subst l111 y111 z111
  obtain ⟨rfl, N111q, e111⟩ := hQ111
  have N111 := Fr.app Nf N111q
  obtain ⟨_, _, ⟨T112, L112, k112, n112⟩, -, X112, ⟨Lc112, hQ112, l112, y112, z112⟩, st112⟩ := Jvm.LawKit.callS X111 hx (y := (⟨"java/lang/Math", "abs", "(J)J"⟩ : MethodName)) hown (mvT hZ (hw _ (List.mem_of_getElem? (i := 25) rfl))) (mvT hZ (hw _ (List.mem_of_getElem? (i := 26) rfl))) (mvT hZ (hw _ (List.mem_of_getElem? (i := 23) rfl))) (mvT hZ (hw _ (List.mem_of_getElem? (i := 27) rfl))) (by decide) (backOf (W := 0) (rm2 l Z a0 hw [] ((cc * (rdF rate days)) % (divF (ydF y) (powF N))) hf1 n0 Zf) hZ (hw _ (List.mem_of_getElem? (i := 27) rfl)) (hw _ (List.mem_of_getElem? (i := 23) rfl)) (by decide) (by decide)) (g := (mkF m 389 #[.val (.long cc), .second, .val (.int rate), .val (.int days), .val (.int y), .val (.int pp), .val (.int ss), .val (.ref b), .val (.long (9223372036854775807 : Int64)), .second, .val (.int (ydF y)), .val (.int (pp % (24 : Int32))), .val (.int (ss % (24 : Int32))), .val (.int (tL pp ss)), .val (.long (rdF rate days)), .second, .val (.long (rdF rate days)), .second, .val (.long (divF (ydF y) (powF N))), .second, .val (.long cc), .second, .val (.long (cc * (rdF rate days))), .second, .val (.long ((cc * (rdF rate days)) / (divF (ydF y) (powF N)))), .second, .unset, .unset, .unset, .unset, .unset, .unset] [(.long ((cc * (rdF rate days)) % (divF (ydF y) (powF N))))])) rfl (by rw [hml]; rfl) (argsL := [(.long ((cc * (rdF rate days)) % (divF (ydF y) (powF N))))]) (rest := []) (lenOf pd_1 rfl) rfl (by show 2 * 0 + _ ≤ _; exact Nat.le_of_eq rfl) (hb hby at_389) (fun _ _ => ⟨rfl, e111, (by decide : 1 + 0 ≤ _), (by decide : 19 + 0 ≤ _)⟩)
  dsimp only [Pt.U, Pt.locs, Pt.cells, Pt.slots] at X112 l112 y112 z112 st112 hQ112
  subst l112 y112 z112
  obtain ⟨rfl, N112q, e112⟩ := hQ112
  have N112 := Fr.app N111 N112q
  obtain ⟨_, _, ⟨T113, L113, k113, n113⟩, -, X113, ⟨Lc113, hQ113, l113, y113, z113⟩, st113⟩ := Jvm.LawKit.callS X112 hx (y := (⟨"com/example/syndicata/syndicata/Accrual", "accruedUnits", "(JJIJII)J"⟩ : MethodName)) hown (mvT hZ (hw _ (List.mem_of_getElem? (i := 28) rfl))) (mvT hZ (hw _ (List.mem_of_getElem? (i := 29) rfl))) (mvT hZ (hw _ (List.mem_of_getElem? (i := 30) rfl))) (mvT hZ (hw _ (List.mem_of_getElem? (i := 31) rfl))) (by decide) (backOf (W := 0) (rm3_N0 l Z a0 hw [] cc (rate.toInt64) (ss % (24 : Int32)) (days.toInt64) (ydF y) (pp % (24 : Int32)) N hf1 n0 Zf hN hN1 fhc18 fhc37 fhc50 fhc67 fhc79 fhc90 fhnz118 fhnz125 fhc134 fhc143 fhnz162 fhnz171 fhc185 fhc212 fhc225) hZ (hw _ (List.mem_of_getElem? (i := 31) rfl)) (hw _ (List.mem_of_getElem? (i := 30) rfl)) (by decide) (by decide)) (g := (mkF m 444 #[.val (.long cc), .second, .val (.int rate), .val (.int days), .val (.int y), .val (.int pp), .val (.int ss), .val (.ref b), .val (.long (9223372036854775807 : Int64)), .second, .val (.int (ydF y)), .val (.int (pp % (24 : Int32))), .val (.int (ss % (24 : Int32))), .val (.int (tL pp ss)), .val (.long (rdF rate days)), .second, .val (.long (rdF rate days)), .second, .val (.long (divF (ydF y) (powF N))), .second, .val (.long cc), .second, .val (.long (cc * (rdF rate days))), .second, .val (.long ((cc * (rdF rate days)) / (divF (ydF y) (powF N)))), .second, .val (.long (absL ((cc * (rdF rate days)) % (divF (ydF y) (powF N))))), .second, .val (.long (0 : Int64)), .second, .val (.long (((cc * (rdF rate days)) / (divF (ydF y) (powF N))) + (0 : Int64))), .second] [(.int (pp % (24 : Int32))), (.int (ydF y)), (.long (days.toInt64)), (.int (ss % (24 : Int32))), (.long (rate.toInt64)), (.long cc)])) rfl (by rw [hml]; rfl) (argsL := [(.long cc), (.long (rate.toInt64)), (.int (ss % (24 : Int32))), (.long (days.toInt64)), (.int (ydF y)), (.int (pp % (24 : Int32)))]) (rest := []) (lenOf pd_2 rfl) rfl (by show 2 * 0 + _ ≤ _; exact Nat.le_of_eq rfl) (hb hby at_444) (fun _ _ => ⟨rfl, e112, (by decide : 1 + 0 ≤ _), (by decide : 19 + 0 ≤ _)⟩)
  dsimp only [Pt.U, Pt.locs, Pt.cells, Pt.slots] at X113 l113 y113 z113 st113 hQ113
  subst l113 y113 z113
  obtain ⟨rfl, N113q, e113⟩ := hQ113
  have N113 := Fr.app N112 N113q
  obtain ⟨fs, hr, hrun, hended, hW, hsame⟩ := X113.leave (v := some (.int (1 : Int32))) (fun h => by rw [Bd.returns] at h; cases h)
  refine ⟨_, _, pre0 _ ?_, hrun, hended, _, _, rfl, ?_, ⟨_, rfl⟩, hW, hsame.mono (by decide) (by decide)⟩
  · show Steps p.tables e below (s₁.setTop (mkF m 0 #[.val (.long cc), .second, .val (.int rate), .val (.int days), .val (.int y), .val (.int pp), .val (.int ss), .unset, .unset, .unset, .unset, .unset, .unset, .unset, .unset, .unset, .unset, .unset, .unset, .unset, .unset, .unset, .unset, .unset, .unset, .unset, .unset, .unset, .unset, .unset, .unset, .unset] [])) _
    refine stf _ ?_
    show Steps p.tables e below (Tf.setTop (mkF m 131 #[.val (.long cc), .second, .val (.int rate), .val (.int days), .val (.int y), .val (.int pp), .val (.int ss), .val (.ref b), .unset, .unset, .unset, .unset, .unset, .unset, .unset, .unset, .unset, .unset, .unset, .unset, .unset, .unset, .unset, .unset, .unset, .unset, .unset, .unset, .unset, .unset, .unset, .unset] [])) _
    refine Xf.ldc2Long hx hown (mvT hZ (hw _ (List.mem_of_getElem? (i := 19) rfl))) (g := (mkF m 131 #[.val (.long cc), .second, .val (.int rate), .val (.int days), .val (.int y), .val (.int pp), .val (.int ss), .val (.ref b), .unset, .unset, .unset, .unset, .unset, .unset, .unset, .unset, .unset, .unset, .unset, .unset, .unset, .unset, .unset, .unset, .unset, .unset, .unset, .unset, .unset, .unset, .unset, .unset] [])) rfl (hb hby at_131) _ ?_
    refine XS.lstore Xf.here hx rfl (hb hby at_134) rfl (l' := #[.val (.long cc), .second, .val (.int rate), .val (.int days), .val (.int y), .val (.int pp), .val (.int ss), .val (.ref b), .val (.long (9223372036854775807 : Int64)), .second, .unset, .unset, .unset, .unset, .unset, .unset, .unset, .unset, .unset, .unset, .unset, .unset, .unset, .unset, .unset, .unset, .unset, .unset, .unset, .unset, .unset, .unset]) rfl ?_
    refine XS.iconst Xf.here hx rfl (hb hby at_136) ?_
    refine XS.iload Xf.here hx rfl (hb hby at_137) rfl ?_
    refine Xf.ldcInt hx hown (mvT hZ (hw _ (List.mem_of_getElem? (i := 20) rfl))) (g := (mkF m 139 #[.val (.long cc), .second, .val (.int rate), .val (.int days), .val (.int y), .val (.int pp), .val (.int ss), .val (.ref b), .val (.long (9223372036854775807 : Int64)), .second, .unset, .unset, .unset, .unset, .unset, .unset, .unset, .unset, .unset, .unset, .unset, .unset, .unset, .unset, .unset, .unset, .unset, .unset, .unset, .unset, .unset, .unset] [(.int y), (.int (1 : Int32))])) rfl (hb hby at_139) _ ?_
    refine XS.iand Xf.here hx rfl (hb hby at_141) rfl ?_
    show Steps p.tables e below (Tf.setTop (mkF m 142 #[.val (.long cc), .second, .val (.int rate), .val (.int days), .val (.int y), .val (.int pp), .val (.int ss), .val (.ref b), .val (.long (9223372036854775807 : Int64)), .second, .unset, .unset, .unset, .unset, .unset, .unset, .unset, .unset, .unset, .unset, .unset, .unset, .unset, .unset, .unset, .unset, .unset, .unset, .unset, .unset, .unset, .unset] [(.int (y &&& (2147483647 : Int32))), (.int (1 : Int32))])) _
    refine st111 _ ?_
    show Steps p.tables e below (T111.setTop (mkF m 145 #[.val (.long cc), .second, .val (.int rate), .val (.int days), .val (.int y), .val (.int pp), .val (.int ss), .val (.ref b), .val (.long (9223372036854775807 : Int64)), .second, .unset, .unset, .unset, .unset, .unset, .unset, .unset, .unset, .unset, .unset, .unset, .unset, .unset, .unset, .unset, .unset, .unset, .unset, .unset, .unset, .unset, .unset] [(.int (ydF y))])) _
    refine XS.istore X111.here hx rfl (hb hby at_145) rfl (l' := #[.val (.long cc), .second, .val (.int rate), .val (.int days), .val (.int y), .val (.int pp), .val (.int ss), .val (.ref b), .val (.long (9223372036854775807 : Int64)), .second, .val (.int (ydF y)), .unset, .unset, .unset, .unset, .unset, .unset, .unset, .unset, .unset, .unset, .unset, .unset, .unset, .unset, .unset, .unset, .unset, .unset, .unset, .unset, .unset]) rfl ?_
    refine XS.iload X111.here hx rfl (hb hby at_147) rfl ?_
    refine XS.bipush X111.here hx rfl (hb hby at_149) ?_
    refine gwIrem X111.here hx rfl (hb hby at_151) rfl (by decide : ¬ ((24 : Int32) = (0 : Int32))) ?_
    refine XS.istore X111.here hx rfl (hb hby at_152) rfl (l' := #[.val (.long cc), .second, .val (.int rate), .val (.int days), .val (.int y), .val (.int pp), .val (.int ss), .val (.ref b), .val (.long (9223372036854775807 : Int64)), .second, .val (.int (ydF y)), .val (.int (pp % (24 : Int32))), .unset, .unset, .unset, .unset, .unset, .unset, .unset, .unset, .unset, .unset, .unset, .unset, .unset, .unset, .unset, .unset, .unset, .unset, .unset, .unset]) rfl ?_
    refine XS.iload X111.here hx rfl (hb hby at_154) rfl ?_
    refine XS.bipush X111.here hx rfl (hb hby at_156) ?_
    refine gwIrem X111.here hx rfl (hb hby at_158) rfl (by decide : ¬ ((24 : Int32) = (0 : Int32))) ?_
    show Steps p.tables e below (T111.setTop (mkF m 159 #[.val (.long cc), .second, .val (.int rate), .val (.int days), .val (.int y), .val (.int pp), .val (.int ss), .val (.ref b), .val (.long (9223372036854775807 : Int64)), .second, .val (.int (ydF y)), .val (.int (pp % (24 : Int32))), .unset, .unset, .unset, .unset, .unset, .unset, .unset, .unset, .unset, .unset, .unset, .unset, .unset, .unset, .unset, .unset, .unset, .unset, .unset, .unset] [(.int (ss % (24 : Int32)))])) _
    refine XS.istore X111.here hx rfl (hb hby at_159) rfl (l' := #[.val (.long cc), .second, .val (.int rate), .val (.int days), .val (.int y), .val (.int pp), .val (.int ss), .val (.ref b), .val (.long (9223372036854775807 : Int64)), .second, .val (.int (ydF y)), .val (.int (pp % (24 : Int32))), .val (.int (ss % (24 : Int32))), .unset, .unset, .unset, .unset, .unset, .unset, .unset, .unset, .unset, .unset, .unset, .unset, .unset, .unset, .unset, .unset, .unset, .unset, .unset]) rfl ?_
    refine XS.iload X111.here hx rfl (hb hby at_161) rfl ?_
    refine XS.iconst X111.here hx rfl (hb hby at_163) ?_
    refine XS.isub X111.here hx rfl (hb hby at_164) rfl ?_
    refine XS.iload X111.here hx rfl (hb hby at_165) rfl ?_
    refine XS.isub X111.here hx rfl (hb hby at_167) rfl ?_
    show Steps p.tables e below (T111.setTop (mkF m 168 #[.val (.long cc), .second, .val (.int rate), .val (.int days), .val (.int y), .val (.int pp), .val (.int ss), .val (.ref b), .val (.long (9223372036854775807 : Int64)), .second, .val (.int (ydF y)), .val (.int (pp % (24 : Int32))), .val (.int (ss % (24 : Int32))), .unset, .unset, .unset, .unset, .unset, .unset, .unset, .unset, .unset, .unset, .unset, .unset, .unset, .unset, .unset, .unset, .unset, .unset, .unset] [(.int (tL pp ss))])) _
    refine XS.istore X111.here hx rfl (hb hby at_168) rfl (l' := #[.val (.long cc), .second, .val (.int rate), .val (.int days), .val (.int y), .val (.int pp), .val (.int ss), .val (.ref b), .val (.long (9223372036854775807 : Int64)), .second, .val (.int (ydF y)), .val (.int (pp % (24 : Int32))), .val (.int (ss % (24 : Int32))), .val (.int (tL pp ss)), .unset, .unset, .unset, .unset, .unset, .unset, .unset, .unset, .unset, .unset, .unset, .unset, .unset, .unset, .unset, .unset, .unset, .unset]) rfl ?_
    refine XS.iload X111.here hx rfl (hb hby at_170) rfl ?_
    refine XS.bipush X111.here hx rfl (hb hby at_172) ?_
    refine XS.icmpNo X111.here hx rfl (hb hby at_174) rfl (flt hc174).2.2.1 ?_
    refine XS.iload X111.here hx rfl (hb hby at_177) rfl ?_
    refine XS.bipush X111.here hx rfl (hb hby at_179) ?_
    refine XS.icmpYes X111.here hx rfl (pc0 := 181) (pc' := 211) rfl (hb hby at_181) rfl (flt hc181).2.1 (by decide) (by decide) ?_
    refine XS.iloadN X111.here hx rfl (hb hby at_211) rfl ?_
    show Steps p.tables e below (T111.setTop (mkF m 212 #[.val (.long cc), .second, .val (.int rate), .val (.int days), .val (.int y), .val (.int pp), .val (.int ss), .val (.ref b), .val (.long (9223372036854775807 : Int64)), .second, .val (.int (ydF y)), .val (.int (pp % (24 : Int32))), .val (.int (ss % (24 : Int32))), .val (.int (tL pp ss)), .unset, .unset, .unset, .unset, .unset, .unset, .unset, .unset, .unset, .unset, .unset, .unset, .unset, .unset, .unset, .unset, .unset, .unset] [(.int rate)])) _
    refine XS.i2l X111.here hx rfl (hb hby at_212) rfl ?_
    refine XS.iloadN X111.here hx rfl (hb hby at_213) rfl ?_
    refine XS.i2l X111.here hx rfl (hb hby at_214) rfl ?_
    refine XS.lmul X111.here hx rfl (hb hby at_215) rfl ?_
    show Steps p.tables e below (T111.setTop (mkF m 216 #[.val (.long cc), .second, .val (.int rate), .val (.int days), .val (.int y), .val (.int pp), .val (.int ss), .val (.ref b), .val (.long (9223372036854775807 : Int64)), .second, .val (.int (ydF y)), .val (.int (pp % (24 : Int32))), .val (.int (ss % (24 : Int32))), .val (.int (tL pp ss)), .unset, .unset, .unset, .unset, .unset, .unset, .unset, .unset, .unset, .unset, .unset, .unset, .unset, .unset, .unset, .unset, .unset, .unset] [(.long (rdF rate days))])) _
    refine XS.lstore X111.here hx rfl (hb hby at_216) rfl (l' := #[.val (.long cc), .second, .val (.int rate), .val (.int days), .val (.int y), .val (.int pp), .val (.int ss), .val (.ref b), .val (.long (9223372036854775807 : Int64)), .second, .val (.int (ydF y)), .val (.int (pp % (24 : Int32))), .val (.int (ss % (24 : Int32))), .val (.int (tL pp ss)), .val (.long (rdF rate days)), .second, .unset, .unset, .unset, .unset, .unset, .unset, .unset, .unset, .unset, .unset, .unset, .unset, .unset, .unset, .unset, .unset]) rfl ?_
    refine XS.iload X111.here hx rfl (hb hby at_218) rfl ?_
    refine XS.ifYes X111.here hx rfl (pc0 := 220) (pc' := 285) rfl (hb hby at_220) rfl ((if0 _ _).trans (flt hc220).2.2.2) (by decide) (by decide) ?_
    refine XS.iload X111.here hx rfl (hb hby at_285) rfl ?_
    refine XS.ineg X111.here hx rfl (hb hby at_287) rfl ?_
    refine XS.istore X111.here hx rfl (hb hby at_288) rfl (l' := #[.val (.long cc), .second, .val (.int rate), .val (.int days), .val (.int y), .val (.int pp), .val (.int ss), .val (.ref b), .val (.long (9223372036854775807 : Int64)), .second, .val (.int (ydF y)), .val (.int (pp % (24 : Int32))), .val (.int (ss % (24 : Int32))), .val (.int (tL pp ss)), .val (.long (rdF rate days)), .second, .unset, .unset, .unset, .unset, .val (.int (-(tL pp ss))), .unset, .unset, .unset, .unset, .unset, .unset, .unset, .unset, .unset, .unset, .unset]) rfl ?_
    refine XS.iload X111.here hx rfl (hb hby at_290) rfl ?_
    refine XS.i2l X111.here hx rfl (hb hby at_292) rfl ?_
    show Steps p.tables e below (T111.setTop (mkF m 293 #[.val (.long cc), .second, .val (.int rate), .val (.int days), .val (.int y), .val (.int pp), .val (.int ss), .val (.ref b), .val (.long (9223372036854775807 : Int64)), .second, .val (.int (ydF y)), .val (.int (pp % (24 : Int32))), .val (.int (ss % (24 : Int32))), .val (.int (tL pp ss)), .val (.long (rdF rate days)), .second, .unset, .unset, .unset, .unset, .val (.int (-(tL pp ss))), .unset, .unset, .unset, .unset, .unset, .unset, .unset, .unset, .unset, .unset, .unset] [(.long ((ydF y).toInt64))])) _
    refine XS.lload X111.here hx rfl (hb hby at_293) rfl ?_
    refine XS.aload X111.here hx rfl (hb hby at_295) rfl rfl ?_
    refine XS.iload X111.here hx rfl (hb hby at_297) rfl ?_
    show Steps p.tables e below (T111.setTop (mkF m 299 #[.val (.long cc), .second, .val (.int rate), .val (.int days), .val (.int y), .val (.int pp), .val (.int ss), .val (.ref b), .val (.long (9223372036854775807 : Int64)), .second, .val (.int (ydF y)), .val (.int (pp % (24 : Int32))), .val (.int (ss % (24 : Int32))), .val (.int (tL pp ss)), .val (.long (rdF rate days)), .second, .unset, .unset, .unset, .unset, .val (.int (-(tL pp ss))), .unset, .unset, .unset, .unset, .unset, .unset, .unset, .unset, .unset, .unset, .unset] [(.int (-(tL pp ss))), (.ref b), (.long (9223372036854775807 : Int64)), (.long ((ydF y).toInt64))])) _
    refine X111.laload hx (j := (-(tL pp ss))) (v := (.long (powF N))) (by rw [e111]; exact Ar.1) (State.isArrayOf_alike hZ.alike Ar.2.1) Ar.2.2 hin hat (g := (mkF m 299 #[.val (.long cc), .second, .val (.int rate), .val (.int days), .val (.int y), .val (.int pp), .val (.int ss), .val (.ref b), .val (.long (9223372036854775807 : Int64)), .second, .val (.int (ydF y)), .val (.int (pp % (24 : Int32))), .val (.int (ss % (24 : Int32))), .val (.int (tL pp ss)), .val (.long (rdF rate days)), .second, .unset, .unset, .unset, .unset, .val (.int (-(tL pp ss))), .unset, .unset, .unset, .unset, .unset, .unset, .unset, .unset, .unset, .unset, .unset] [(.int (-(tL pp ss))), (.ref b), (.long (9223372036854775807 : Int64)), (.long ((ydF y).toInt64))])) rfl rfl (hb hby at_299) _ ?_
    refine XS.ldiv X111.here hx rfl (hb hby at_300) rfl hnz300 ?_
    refine XS.lcmp X111.here hx rfl (hb hby at_301) rfl ?_
    refine XS.ifYes X111.here hx rfl (pc0 := 302) (pc' := 332) rfl (hb hby at_302) rfl ((if0 _ _).trans (flt hc302).2.2.2) (by decide) (by decide) ?_
    refine XS.lload X111.here hx rfl (hb hby at_332) rfl ?_
    refine XS.lstore X111.here hx rfl (hb hby at_334) rfl (l' := #[.val (.long cc), .second, .val (.int rate), .val (.int days), .val (.int y), .val (.int pp), .val (.int ss), .val (.ref b), .val (.long (9223372036854775807 : Int64)), .second, .val (.int (ydF y)), .val (.int (pp % (24 : Int32))), .val (.int (ss % (24 : Int32))), .val (.int (tL pp ss)), .val (.long (rdF rate days)), .second, .val (.long (rdF rate days)), .second, .unset, .unset, .val (.int (-(tL pp ss))), .unset, .unset, .unset, .unset, .unset, .unset, .unset, .unset, .unset, .unset, .unset]) rfl ?_
    refine XS.iload X111.here hx rfl (hb hby at_336) rfl ?_
    refine XS.i2l X111.here hx rfl (hb hby at_338) rfl ?_
    show Steps p.tables e below (T111.setTop (mkF m 339 #[.val (.long cc), .second, .val (.int rate), .val (.int days), .val (.int y), .val (.int pp), .val (.int ss), .val (.ref b), .val (.long (9223372036854775807 : Int64)), .second, .val (.int (ydF y)), .val (.int (pp % (24 : Int32))), .val (.int (ss % (24 : Int32))), .val (.int (tL pp ss)), .val (.long (rdF rate days)), .second, .val (.long (rdF rate days)), .second, .unset, .unset, .val (.int (-(tL pp ss))), .unset, .unset, .unset, .unset, .unset, .unset, .unset, .unset, .unset, .unset, .unset] [(.long ((ydF y).toInt64))])) _
    refine XS.aload X111.here hx rfl (hb hby at_339) rfl rfl ?_
    refine XS.iload X111.here hx rfl (hb hby at_341) rfl ?_
    show Steps p.tables e below (T111.setTop (mkF m 343 #[.val (.long cc), .second, .val (.int rate), .val (.int days), .val (.int y), .val (.int pp), .val (.int ss), .val (.ref b), .val (.long (9223372036854775807 : Int64)), .second, .val (.int (ydF y)), .val (.int (pp % (24 : Int32))), .val (.int (ss % (24 : Int32))), .val (.int (tL pp ss)), .val (.long (rdF rate days)), .second, .val (.long (rdF rate days)), .second, .unset, .unset, .val (.int (-(tL pp ss))), .unset, .unset, .unset, .unset, .unset, .unset, .unset, .unset, .unset, .unset, .unset] [(.int (-(tL pp ss))), (.ref b), (.long ((ydF y).toInt64))])) _
    refine X111.laload hx (j := (-(tL pp ss))) (v := (.long (powF N))) (by rw [e111]; exact Ar.1) (State.isArrayOf_alike hZ.alike Ar.2.1) Ar.2.2 hin hat (g := (mkF m 343 #[.val (.long cc), .second, .val (.int rate), .val (.int days), .val (.int y), .val (.int pp), .val (.int ss), .val (.ref b), .val (.long (9223372036854775807 : Int64)), .second, .val (.int (ydF y)), .val (.int (pp % (24 : Int32))), .val (.int (ss % (24 : Int32))), .val (.int (tL pp ss)), .val (.long (rdF rate days)), .second, .val (.long (rdF rate days)), .second, .unset, .unset, .val (.int (-(tL pp ss))), .unset, .unset, .unset, .unset, .unset, .unset, .unset, .unset, .unset, .unset, .unset] [(.int (-(tL pp ss))), (.ref b), (.long ((ydF y).toInt64))])) rfl rfl (hb hby at_343) _ ?_
    refine XS.lmul X111.here hx rfl (hb hby at_344) rfl ?_
    show Steps p.tables e below (T111.setTop (mkF m 345 #[.val (.long cc), .second, .val (.int rate), .val (.int days), .val (.int y), .val (.int pp), .val (.int ss), .val (.ref b), .val (.long (9223372036854775807 : Int64)), .second, .val (.int (ydF y)), .val (.int (pp % (24 : Int32))), .val (.int (ss % (24 : Int32))), .val (.int (tL pp ss)), .val (.long (rdF rate days)), .second, .val (.long (rdF rate days)), .second, .unset, .unset, .val (.int (-(tL pp ss))), .unset, .unset, .unset, .unset, .unset, .unset, .unset, .unset, .unset, .unset, .unset] [(.long (divF (ydF y) (powF N)))])) _
    refine XS.lstore X111.here hx rfl (hb hby at_345) rfl (l' := #[.val (.long cc), .second, .val (.int rate), .val (.int days), .val (.int y), .val (.int pp), .val (.int ss), .val (.ref b), .val (.long (9223372036854775807 : Int64)), .second, .val (.int (ydF y)), .val (.int (pp % (24 : Int32))), .val (.int (ss % (24 : Int32))), .val (.int (tL pp ss)), .val (.long (rdF rate days)), .second, .val (.long (rdF rate days)), .second, .val (.long (divF (ydF y) (powF N))), .second, .val (.int (-(tL pp ss))), .unset, .unset, .unset, .unset, .unset, .unset, .unset, .unset, .unset, .unset, .unset]) rfl ?_
    refine XS.lload X111.here hx rfl (hb hby at_347) rfl ?_
    refine XS.lconst X111.here hx rfl (hb hby at_349) ?_
    refine XS.lcmp X111.here hx rfl (hb hby at_350) rfl ?_
    refine XS.ifNo X111.here hx rfl (hb hby at_351) rfl ((if0 _ _).trans (teq hc351).2) ?_
    refine XS.lloadN X111.here hx rfl (hb hby at_354) rfl ?_
    refine XS.goto X111.here hx rfl (pc0 := 355) (pc' := 368) rfl (hb hby at_355) (by decide) (by decide) ?_
    refine XS.lstore X111.here hx rfl (hb hby at_368) rfl (l' := #[.val (.long cc), .second, .val (.int rate), .val (.int days), .val (.int y), .val (.int pp), .val (.int ss), .val (.ref b), .val (.long (9223372036854775807 : Int64)), .second, .val (.int (ydF y)), .val (.int (pp % (24 : Int32))), .val (.int (ss % (24 : Int32))), .val (.int (tL pp ss)), .val (.long (rdF rate days)), .second, .val (.long (rdF rate days)), .second, .val (.long (divF (ydF y) (powF N))), .second, .val (.long cc), .second, .unset, .unset, .unset, .unset, .unset, .unset, .unset, .unset, .unset, .unset]) rfl ?_
    show Steps p.tables e below (T111.setTop (mkF m 370 #[.val (.long cc), .second, .val (.int rate), .val (.int days), .val (.int y), .val (.int pp), .val (.int ss), .val (.ref b), .val (.long (9223372036854775807 : Int64)), .second, .val (.int (ydF y)), .val (.int (pp % (24 : Int32))), .val (.int (ss % (24 : Int32))), .val (.int (tL pp ss)), .val (.long (rdF rate days)), .second, .val (.long (rdF rate days)), .second, .val (.long (divF (ydF y) (powF N))), .second, .val (.long cc), .second, .unset, .unset, .unset, .unset, .unset, .unset, .unset, .unset, .unset, .unset] [])) _
    refine XS.lload X111.here hx rfl (hb hby at_370) rfl ?_
    refine XS.lload X111.here hx rfl (hb hby at_372) rfl ?_
    refine XS.lmul X111.here hx rfl (hb hby at_374) rfl ?_
    refine XS.lstore X111.here hx rfl (hb hby at_375) rfl (l' := #[.val (.long cc), .second, .val (.int rate), .val (.int days), .val (.int y), .val (.int pp), .val (.int ss), .val (.ref b), .val (.long (9223372036854775807 : Int64)), .second, .val (.int (ydF y)), .val (.int (pp % (24 : Int32))), .val (.int (ss % (24 : Int32))), .val (.int (tL pp ss)), .val (.long (rdF rate days)), .second, .val (.long (rdF rate days)), .second, .val (.long (divF (ydF y) (powF N))), .second, .val (.long cc), .second, .val (.long (cc * (rdF rate days))), .second, .unset, .unset, .unset, .unset, .unset, .unset, .unset, .unset]) rfl ?_
    refine XS.lload X111.here hx rfl (hb hby at_377) rfl ?_
    refine XS.lload X111.here hx rfl (hb hby at_379) rfl ?_
    refine XS.ldiv X111.here hx rfl (hb hby at_381) rfl hnz381 ?_
    refine XS.lstore X111.here hx rfl (hb hby at_382) rfl (l' := #[.val (.long cc), .second, .val (.int rate), .val (.int days), .val (.int y), .val (.int pp), .val (.int ss), .val (.ref b), .val (.long (9223372036854775807 : Int64)), .second, .val (.int (ydF y)), .val (.int (pp % (24 : Int32))), .val (.int (ss % (24 : Int32))), .val (.int (tL pp ss)), .val (.long (rdF rate days)), .second, .val (.long (rdF rate days)), .second, .val (.long (divF (ydF y) (powF N))), .second, .val (.long cc), .second, .val (.long (cc * (rdF rate days))), .second, .val (.long ((cc * (rdF rate days)) / (divF (ydF y) (powF N)))), .second, .unset, .unset, .unset, .unset, .unset, .unset]) rfl ?_
    show Steps p.tables e below (T111.setTop (mkF m 384 #[.val (.long cc), .second, .val (.int rate), .val (.int days), .val (.int y), .val (.int pp), .val (.int ss), .val (.ref b), .val (.long (9223372036854775807 : Int64)), .second, .val (.int (ydF y)), .val (.int (pp % (24 : Int32))), .val (.int (ss % (24 : Int32))), .val (.int (tL pp ss)), .val (.long (rdF rate days)), .second, .val (.long (rdF rate days)), .second, .val (.long (divF (ydF y) (powF N))), .second, .val (.long cc), .second, .val (.long (cc * (rdF rate days))), .second, .val (.long ((cc * (rdF rate days)) / (divF (ydF y) (powF N)))), .second, .unset, .unset, .unset, .unset, .unset, .unset] [])) _
    refine XS.lload X111.here hx rfl (hb hby at_384) rfl ?_
    refine XS.lload X111.here hx rfl (hb hby at_386) rfl ?_
    refine gwLrem X111.here hx rfl (hb hby at_388) rfl hnz388 ?_
    show Steps p.tables e below (T111.setTop (mkF m 389 #[.val (.long cc), .second, .val (.int rate), .val (.int days), .val (.int y), .val (.int pp), .val (.int ss), .val (.ref b), .val (.long (9223372036854775807 : Int64)), .second, .val (.int (ydF y)), .val (.int (pp % (24 : Int32))), .val (.int (ss % (24 : Int32))), .val (.int (tL pp ss)), .val (.long (rdF rate days)), .second, .val (.long (rdF rate days)), .second, .val (.long (divF (ydF y) (powF N))), .second, .val (.long cc), .second, .val (.long (cc * (rdF rate days))), .second, .val (.long ((cc * (rdF rate days)) / (divF (ydF y) (powF N)))), .second, .unset, .unset, .unset, .unset, .unset, .unset] [(.long ((cc * (rdF rate days)) % (divF (ydF y) (powF N))))])) _
    refine st112 _ ?_
    refine XS.lstore X112.here hx rfl (hb hby at_392) rfl (l' := #[.val (.long cc), .second, .val (.int rate), .val (.int days), .val (.int y), .val (.int pp), .val (.int ss), .val (.ref b), .val (.long (9223372036854775807 : Int64)), .second, .val (.int (ydF y)), .val (.int (pp % (24 : Int32))), .val (.int (ss % (24 : Int32))), .val (.int (tL pp ss)), .val (.long (rdF rate days)), .second, .val (.long (rdF rate days)), .second, .val (.long (divF (ydF y) (powF N))), .second, .val (.long cc), .second, .val (.long (cc * (rdF rate days))), .second, .val (.long ((cc * (rdF rate days)) / (divF (ydF y) (powF N)))), .second, .val (.long (absL ((cc * (rdF rate days)) % (divF (ydF y) (powF N))))), .second, .unset, .unset, .unset, .unset]) rfl ?_
    refine XS.lload X112.here hx rfl (hb hby at_394) rfl ?_
    refine XS.lload X112.here hx rfl (hb hby at_396) rfl ?_
    refine XS.lload X112.here hx rfl (hb hby at_398) rfl ?_
    refine XS.lsub X112.here hx rfl (hb hby at_400) rfl ?_
    refine XS.lcmp X112.here hx rfl (hb hby at_401) rfl ?_
    refine XS.ifYes X112.here hx rfl (pc0 := 402) (pc' := 422) rfl (hb hby at_402) rfl ((if0 _ _).trans (tlt hc402).1) (by decide) (by decide) ?_
    show Steps p.tables e below (T112.setTop (mkF m 422 #[.val (.long cc), .second, .val (.int rate), .val (.int days), .val (.int y), .val (.int pp), .val (.int ss), .val (.ref b), .val (.long (9223372036854775807 : Int64)), .second, .val (.int (ydF y)), .val (.int (pp % (24 : Int32))), .val (.int (ss % (24 : Int32))), .val (.int (tL pp ss)), .val (.long (rdF rate days)), .second, .val (.long (rdF rate days)), .second, .val (.long (divF (ydF y) (powF N))), .second, .val (.long cc), .second, .val (.long (cc * (rdF rate days))), .second, .val (.long ((cc * (rdF rate days)) / (divF (ydF y) (powF N)))), .second, .val (.long (absL ((cc * (rdF rate days)) % (divF (ydF y) (powF N))))), .second, .unset, .unset, .unset, .unset] [])) _
    refine XS.lconst X112.here hx rfl (hb hby at_422) ?_
    refine XS.lstore X112.here hx rfl (hb hby at_423) rfl (l' := #[.val (.long cc), .second, .val (.int rate), .val (.int days), .val (.int y), .val (.int pp), .val (.int ss), .val (.ref b), .val (.long (9223372036854775807 : Int64)), .second, .val (.int (ydF y)), .val (.int (pp % (24 : Int32))), .val (.int (ss % (24 : Int32))), .val (.int (tL pp ss)), .val (.long (rdF rate days)), .second, .val (.long (rdF rate days)), .second, .val (.long (divF (ydF y) (powF N))), .second, .val (.long cc), .second, .val (.long (cc * (rdF rate days))), .second, .val (.long ((cc * (rdF rate days)) / (divF (ydF y) (powF N)))), .second, .val (.long (absL ((cc * (rdF rate days)) % (divF (ydF y) (powF N))))), .second, .val (.long (0 : Int64)), .second, .unset, .unset]) rfl ?_
    refine XS.lload X112.here hx rfl (hb hby at_425) rfl ?_
    refine XS.lload X112.here hx rfl (hb hby at_427) rfl ?_
    refine XS.ladd X112.here hx rfl (hb hby at_429) rfl ?_
    refine XS.lstore X112.here hx rfl (hb hby at_430) rfl (l' := #[.val (.long cc), .second, .val (.int rate), .val (.int days), .val (.int y), .val (.int pp), .val (.int ss), .val (.ref b), .val (.long (9223372036854775807 : Int64)), .second, .val (.int (ydF y)), .val (.int (pp % (24 : Int32))), .val (.int (ss % (24 : Int32))), .val (.int (tL pp ss)), .val (.long (rdF rate days)), .second, .val (.long (rdF rate days)), .second, .val (.long (divF (ydF y) (powF N))), .second, .val (.long cc), .second, .val (.long (cc * (rdF rate days))), .second, .val (.long ((cc * (rdF rate days)) / (divF (ydF y) (powF N)))), .second, .val (.long (absL ((cc * (rdF rate days)) % (divF (ydF y) (powF N))))), .second, .val (.long (0 : Int64)), .second, .val (.long (((cc * (rdF rate days)) / (divF (ydF y) (powF N))) + (0 : Int64))), .second]) rfl ?_
    refine XS.lload X112.here hx rfl (hb hby at_432) rfl ?_
    refine XS.iloadN X112.here hx rfl (hb hby at_434) rfl ?_
    show Steps p.tables e below (T112.setTop (mkF m 435 #[.val (.long cc), .second, .val (.int rate), .val (.int days), .val (.int y), .val (.int pp), .val (.int ss), .val (.ref b), .val (.long (9223372036854775807 : Int64)), .second, .val (.int (ydF y)), .val (.int (pp % (24 : Int32))), .val (.int (ss % (24 : Int32))), .val (.int (tL pp ss)), .val (.long (rdF rate days)), .second, .val (.long (rdF rate days)), .second, .val (.long (divF (ydF y) (powF N))), .second, .val (.long cc), .second, .val (.long (cc * (rdF rate days))), .second, .val (.long ((cc * (rdF rate days)) / (divF (ydF y) (powF N)))), .second, .val (.long (absL ((cc * (rdF rate days)) % (divF (ydF y) (powF N))))), .second, .val (.long (0 : Int64)), .second, .val (.long (((cc * (rdF rate days)) / (divF (ydF y) (powF N))) + (0 : Int64))), .second] [(.int rate), (.long cc)])) _
    refine XS.i2l X112.here hx rfl (hb hby at_435) rfl ?_
    refine XS.iload X112.here hx rfl (hb hby at_436) rfl ?_
    refine XS.iloadN X112.here hx rfl (hb hby at_438) rfl ?_
    refine XS.i2l X112.here hx rfl (hb hby at_439) rfl ?_
    refine XS.iload X112.here hx rfl (hb hby at_440) rfl ?_
    refine XS.iload X112.here hx rfl (hb hby at_442) rfl ?_
    show Steps p.tables e below (T112.setTop (mkF m 444 #[.val (.long cc), .second, .val (.int rate), .val (.int days), .val (.int y), .val (.int pp), .val (.int ss), .val (.ref b), .val (.long (9223372036854775807 : Int64)), .second, .val (.int (ydF y)), .val (.int (pp % (24 : Int32))), .val (.int (ss % (24 : Int32))), .val (.int (tL pp ss)), .val (.long (rdF rate days)), .second, .val (.long (rdF rate days)), .second, .val (.long (divF (ydF y) (powF N))), .second, .val (.long cc), .second, .val (.long (cc * (rdF rate days))), .second, .val (.long ((cc * (rdF rate days)) / (divF (ydF y) (powF N)))), .second, .val (.long (absL ((cc * (rdF rate days)) % (divF (ydF y) (powF N))))), .second, .val (.long (0 : Int64)), .second, .val (.long (((cc * (rdF rate days)) / (divF (ydF y) (powF N))) + (0 : Int64))), .second] [(.int (pp % (24 : Int32))), (.int (ydF y)), (.long (days.toInt64)), (.int (ss % (24 : Int32))), (.long (rate.toInt64)), (.long cc)])) _
    refine st113 _ ?_
    refine XS.lload X113.here hx rfl (hb hby at_447) rfl ?_
    refine XS.lcmp X113.here hx rfl (hb hby at_449) rfl ?_
    refine XS.ifNo X113.here hx rfl (hb hby at_450) rfl ((if0 _ _).trans (teq hc450).2) ?_
    refine XS.iconst X113.here hx rfl (hb hby at_453) ?_
    refine XS.goto X113.here hx rfl (pc0 := 454) (pc' := 458) rfl (hb hby at_454) (by decide) (by decide) ?_
    show Steps p.tables e below (T113.setTop (mkF m 458 #[.val (.long cc), .second, .val (.int rate), .val (.int days), .val (.int y), .val (.int pp), .val (.int ss), .val (.ref b), .val (.long (9223372036854775807 : Int64)), .second, .val (.int (ydF y)), .val (.int (pp % (24 : Int32))), .val (.int (ss % (24 : Int32))), .val (.int (tL pp ss)), .val (.long (rdF rate days)), .second, .val (.long (rdF rate days)), .second, .val (.long (divF (ydF y) (powF N))), .second, .val (.long cc), .second, .val (.long (cc * (rdF rate days))), .second, .val (.long ((cc * (rdF rate days)) / (divF (ydF y) (powF N)))), .second, .val (.long (absL ((cc * (rdF rate days)) % (divF (ydF y) (powF N))))), .second, .val (.long (0 : Int64)), .second, .val (.long (((cc * (rdF rate days)) / (divF (ydF y) (powF N))) + (0 : Int64))), .second] [(.int (1 : Int32))])) _
    exact retN X113 hx (t := .boolean) Bd.returns (by simp) (hb hby at_458) hr
  · show Q0  h0 n0 _ T113.heap _
    exact ⟨rfl, N113⟩
set_option maxRecDepth 65536 in
set_option maxHeartbeats 40000000 in
theorem rm0_N0 (l : Launch) (Z : State) (a0 : Array Value) (hw : ∀ d ∈ tables_1, d.before a0 Z = true) (ws : List Jvm.Cond) (cc : Int64) (rate : Int32) (days : Int32) (y : Int32) (pp : Int32) (ss : Int32) (N : Nat) (h0 : Heap) (n0 : Nat) (Z0 : n0 ≤ h0.size) (hj : (-(tL pp ss)) = Int32.ofNat N) (hj1 : N < 19) (hc174 : ¬ ((18 : Int32) < (tL pp ss))) (hc181 : ¬ ((tL pp ss) < (-18 : Int32))) (hc220 : ¬ ((0 : Int32) < (tL pp ss))) (hnz300 : ¬ ((powF N) = (0 : Int64))) (hc302 : ¬ ((0 : Int32) < (lcmpW ((ydF y).toInt64) ((9223372036854775807 : Int64) / (powF N))))) (hc351 : ¬ ((lcmpW (rdF rate days) (0 : Int64)) = (0 : Int32))) (hnz366 : ¬ ((absL (rdF rate days)) = (0 : Int64))) (hnz367 : ¬ (((9223372036854775807 : Int64) / (absL (rdF rate days))) = (0 : Int64))) (hnz381 : ¬ ((divF (ydF y) (powF N)) = (0 : Int64))) (hnz388 : ¬ ((divF (ydF y) (powF N)) = (0 : Int64))) (hc402 : (lcmpW (absL (((centF cc (rdF rate days)) * (rdF rate days)) % (divF (ydF y) (powF N)))) ((divF (ydF y) (powF N)) - (absL (((centF cc (rdF rate days)) * (rdF rate days)) % (divF (ydF y) (powF N)))))) < (0 : Int32)) (hN : absI (tA (pp % (24 : Int32)) (ss % (24 : Int32))) = Int32.ofNat N) (hN1 : N < 100) (fhc18 : ¬ ((18 : Int32) < (absI (tA (pp % (24 : Int32)) (ss % (24 : Int32)))))) (fhc37 : ¬ ((0 : Int32) < (tA (pp % (24 : Int32)) (ss % (24 : Int32))))) (fhc50 : ¬ ((0 : Int32) < (tA (pp % (24 : Int32)) (ss % (24 : Int32))))) (fhc67 : ¬ ((proF (rate.toInt64) (days.toInt64)) = (0 : Int32))) (fhc79 : ¬ ((proF ((rate.toInt64) * (days.toInt64)) (1 : Int64)) = (0 : Int32))) (fhc90 : ¬ ((proF ((ydF y).toInt64) (powF N)) = (0 : Int32))) (fhnz118 : ¬ ((divF (ydF y) (powF N)) = (0 : Int64))) (fhnz125 : ¬ ((divF (ydF y) (powF N)) = (0 : Int64))) (fhc134 : ¬ ((proF (centF cc (rdF rate days)) ((perF (rate.toInt64) (days.toInt64) (1 : Int64)) / (divF (ydF y) (powF N)))) = (0 : Int32))) (fhc143 : ¬ ((proF (centF cc (rdF rate days)) ((perF (rate.toInt64) (days.toInt64) (1 : Int64)) % (divF (ydF y) (powF N)))) = (0 : Int32))) (fhnz162 : ¬ ((divF (ydF y) (powF N)) = (0 : Int64))) (fhnz171 : ¬ ((divF (ydF y) (powF N)) = (0 : Int64))) (fhc185 : (lcmpW (remF (centF cc (rdF rate days)) ((perF (rate.toInt64) (days.toInt64) (1 : Int64)) % (divF (ydF y) (powF N))) (divF (ydF y) (powF N))) ((divF (ydF y) (powF N)) - (remF (centF cc (rdF rate days)) ((perF (rate.toInt64) (days.toInt64) (1 : Int64)) % (divF (ydF y) (powF N))) (divF (ydF y) (powF N))))) < (0 : Int32)) (fhc212 : ¬ ((sumF ((centF cc (rdF rate days)) * ((perF (rate.toInt64) (days.toInt64) (1 : Int64)) / (divF (ydF y) (powF N)))) (((centF cc (rdF rate days)) * ((perF (rate.toInt64) (days.toInt64) (1 : Int64)) % (divF (ydF y) (powF N)))) / (divF (ydF y) (powF N)))) = (0 : Int32))) (fhc225 : ¬ ((sumF (((centF cc (rdF rate days)) * ((perF (rate.toInt64) (days.toInt64) (1 : Int64)) / (divF (ydF y) (powF N)))) + (((centF cc (rdF rate days)) * ((perF (rate.toInt64) (days.toInt64) (1 : Int64)) % (divF (ydF y) (powF N)))) / (divF (ydF y) (powF N)))) (0 : Int64)) = (0 : Int32))) (hc450 : (lcmpW (sum3 ((centF cc (rdF rate days)) * ((perF (rate.toInt64) (days.toInt64) (1 : Int64)) / (divF (ydF y) (powF N)))) (((centF cc (rdF rate days)) * ((perF (rate.toInt64) (days.toInt64) (1 : Int64)) % (divF (ydF y) (powF N)))) / (divF (ydF y) (powF N))) (0 : Int64)) ((((centF cc (rdF rate days)) * (rdF rate days)) / (divF (ydF y) (powF N))) + (0 : Int64))) = (0 : Int32)) :
    MetFree l x (head1 (Jvm.Cond.code x code maxLocals ret :: ws) room_1) (fun aa U => aa = #[(.long cc), (.int rate), (.int days), (.int y), (.int pp), (.int ss)] ∧ Z.Warmed39 U.vm ∧ U.heap = h0) (fun _ _ _ _ _ => True) (fun _ U o U' => ∃ v L, o = .returned v ∧ Q0  h0 n0 v U'.heap L ∧ FrameEnd U o U' L room_1.cells room_1.slots) := by
  refine MetFree.of_bodySF (plainFor_of_name pn_0) hisR ?_
  intro p e s m args below meth c s₁ Bd hml0 hP hK
  obtain ⟨rfl, hZ, hh⟩ := hP
  have hx := Bd.exec
  have hby := Bd.bytes
  have hml : c.maxLocals = 32 := hml0
  have hown : s.vm.findClass "com/example/syndicata/syndicata/AccrualAccruedUnitsPinLaw" = some m.cls := findClass_of_methodNamed Bd.named
  have hnm := (name_of_methodNamed Bd.named Bd.method).1
  have X0 : Stand p l e room_1 s m #[(.long cc), (.int rate), (.int days), (.int y), (.int pp), (.int ss)] below meth c s₁ [] 0 0 := Stand.of_body Bd
  have e0 : s₁.heap = h0 := by rw [← hh, Bd.state]; rfl
  have N0 := Fr.nil n0
  have pre0 : ∀ zz, Steps p.tables e below (s₁.setTop (mkF m 0 #[.val (.long cc), .second, .val (.int rate), .val (.int days), .val (.int y), .val (.int pp), .val (.int ss), .unset, .unset, .unset, .unset, .unset, .unset, .unset, .unset, .unset, .unset, .unset, .unset, .unset, .unset, .unset, .unset, .unset, .unset, .unset, .unset, .unset, .unset, .unset, .unset, .unset] [])) zz → Steps p.tables e below (s₁.setTop (entryFrame m #[(.long cc), (.int rate), (.int days), (.int y), (.int pp), (.int ss)] maxLocals)) zz := fun zz k => castTop (ef_0 m cc rate days y pp ss) k
  obtain ⟨Tf, hf1, b, kk, locs1, Xf, ef, Zf, Vf, Nf, stf⟩ := fill0 (n0 := n0) cc rate days y pp ss X0 hx hZ hw hby hown e0 Z0
  obtain ⟨cl, Ar, q_, S_, N_, H_, G_⟩ := Vf
  have hjc : ((-(tL pp ss))).toNatClampNeg = N := by rw [hj]; exact ofNat_clamp (by omega)
  have hsz : cl.slots.size = 19 := S_
  have hin : ¬ ((-(tL pp ss)) < 0 ∨ cl.slots.size ≤ ((-(tL pp ss))).toNatClampNeg) := by rw [hjc, hsz]; exact fun q => q.elim (by rw [hj]; exact ofNat_nn (by omega)) (fun q => absurd q (by omega))
  have hat : cl.slots[((-(tL pp ss))).toNatClampNeg]? = some (.long (powF N)) := by rw [hjc, H_ N (by omega), tens_at N hj1]
  obtain ⟨_, _, ⟨T114, L114, k114, n114⟩, -, X114, ⟨Lc114, hQ114, l114, y114, z114⟩, st114⟩ := Jvm.LawKit.callS Xf hx (y := (⟨"java/lang/Math", "max", "(II)I"⟩ : MethodName)) hown (mvT hZ (hw _ (List.mem_of_getElem? (i := 21) rfl))) (mvT hZ (hw _ (List.mem_of_getElem? (i := 22) rfl))) (mvT hZ (hw _ (List.mem_of_getElem? (i := 23) rfl))) (mvT hZ (hw _ (List.mem_of_getElem? (i := 24) rfl))) (by decide) (backOf (W := 0) (rm1 l Z a0 hw [] (1 : Int32) (y &&& (2147483647 : Int32)) hf1 n0 Zf) hZ (hw _ (List.mem_of_getElem? (i := 24) rfl)) (hw _ (List.mem_of_getElem? (i := 23) rfl)) (by decide) (by decide)) (g := (mkF m 142 #[.val (.long cc), .second, .val (.int rate), .val (.int days), .val (.int y), .val (.int pp), .val (.int ss), .val (.ref b), .val (.long (9223372036854775807 : Int64)), .second, .unset, .unset, .unset, .unset, .unset, .unset, .unset, .unset, .unset, .unset, .unset, .unset, .unset, .unset, .unset, .unset, .unset, .unset, .unset, .unset, .unset, .unset] [(.int (y &&& (2147483647 : Int32))), (.int (1 : Int32))])) rfl (by rw [hml]; rfl) (argsL := [(.int (1 : Int32)), (.int (y &&& (2147483647 : Int32)))]) (rest := []) (lenOf pd_0 rfl) rfl (by show 2 * 0 + _ ≤ _; exact Nat.le_of_eq rfl) (hb hby at_142) (fun _ _ => ⟨rfl, ef, (by decide : 1 + 0 ≤ _), (by decide : 19 + 0 ≤ _)⟩)
  dsimp only [Pt.U, Pt.locs, Pt.cells, Pt.slots] at X114 l114 y114 z114 st114 hQ114
  subst l114 y114 z114
  obtain ⟨rfl, N114q, e114⟩ := hQ114
  have N114 := Fr.app Nf N114q
  obtain ⟨_, _, ⟨T115, L115, k115, n115⟩, -, X115, ⟨Lc115, hQ115, l115, y115, z115⟩, st115⟩ := Jvm.LawKit.callS X114 hx (y := (⟨"java/lang/Math", "abs", "(J)J"⟩ : MethodName)) hown (mvT hZ (hw _ (List.mem_of_getElem? (i := 25) rfl))) (mvT hZ (hw _ (List.mem_of_getElem? (i := 26) rfl))) (mvT hZ (hw _ (List.mem_of_getElem? (i := 23) rfl))) (mvT hZ (hw _ (List.mem_of_getElem? (i := 27) rfl))) (by decide) (backOf (W := 4) (rm2 l Z a0 hw [] (rdF rate days) hf1 n0 Zf) hZ (hw _ (List.mem_of_getElem? (i := 27) rfl)) (hw _ (List.mem_of_getElem? (i := 23) rfl)) (by decide) (by decide)) (g := (mkF m 363 #[.val (.long cc), .second, .val (.int rate), .val (.int days), .val (.int y), .val (.int pp), .val (.int ss), .val (.ref b), .val (.long (9223372036854775807 : Int64)), .second, .val (.int (ydF y)), .val (.int (pp % (24 : Int32))), .val (.int (ss % (24 : Int32))), .val (.int (tL pp ss)), .val (.long (rdF rate days)), .second, .val (.long (rdF rate days)), .second, .val (.long (divF (ydF y) (powF N))), .second, .val (.int (-(tL pp ss))), .unset, .unset, .unset, .unset, .unset, .unset, .unset, .unset, .unset, .unset, .unset] [(.long (rdF rate days)), (.long (9223372036854775807 : Int64)), (.long cc)])) rfl (by rw [hml]; rfl) (argsL := [(.long (rdF rate days))]) (rest := [(.long (9223372036854775807 : Int64)), (.long cc)]) (lenOf pd_1 rfl) rfl (by show 2 * 0 + _ ≤ _; exact Nat.le_of_eq rfl) (hb hby at_363) (fun _ _ => ⟨rfl, e114, (by decide : 1 + 0 ≤ _), (by decide : 19 + 0 ≤ _)⟩)
  dsimp only [Pt.U, Pt.locs, Pt.cells, Pt.slots] at X115 l115 y115 z115 st115 hQ115
  subst l115 y115 z115
  obtain ⟨rfl, N115q, e115⟩ := hQ115
  have N115 := Fr.app N114 N115q
  obtain ⟨_, _, ⟨T116, L116, k116, n116⟩, -, X116, ⟨Lc116, hQ116, l116, y116, z116⟩, st116⟩ := Jvm.LawKit.callS X115 hx (y := (⟨"java/lang/Math", "abs", "(J)J"⟩ : MethodName)) hown (mvT hZ (hw _ (List.mem_of_getElem? (i := 25) rfl))) (mvT hZ (hw _ (List.mem_of_getElem? (i := 26) rfl))) (mvT hZ (hw _ (List.mem_of_getElem? (i := 23) rfl))) (mvT hZ (hw _ (List.mem_of_getElem? (i := 27) rfl))) (by decide) (backOf (W := 0) (rm2 l Z a0 hw [] (((centF cc (rdF rate days)) * (rdF rate days)) % (divF (ydF y) (powF N))) hf1 n0 Zf) hZ (hw _ (List.mem_of_getElem? (i := 27) rfl)) (hw _ (List.mem_of_getElem? (i := 23) rfl)) (by decide) (by decide)) (g := (mkF m 389 #[.val (.long cc), .second, .val (.int rate), .val (.int days), .val (.int y), .val (.int pp), .val (.int ss), .val (.ref b), .val (.long (9223372036854775807 : Int64)), .second, .val (.int (ydF y)), .val (.int (pp % (24 : Int32))), .val (.int (ss % (24 : Int32))), .val (.int (tL pp ss)), .val (.long (rdF rate days)), .second, .val (.long (rdF rate days)), .second, .val (.long (divF (ydF y) (powF N))), .second, .val (.long (centF cc (rdF rate days))), .second, .val (.long ((centF cc (rdF rate days)) * (rdF rate days))), .second, .val (.long (((centF cc (rdF rate days)) * (rdF rate days)) / (divF (ydF y) (powF N)))), .second, .unset, .unset, .unset, .unset, .unset, .unset] [(.long (((centF cc (rdF rate days)) * (rdF rate days)) % (divF (ydF y) (powF N))))])) rfl (by rw [hml]; rfl) (argsL := [(.long (((centF cc (rdF rate days)) * (rdF rate days)) % (divF (ydF y) (powF N))))]) (rest := []) (lenOf pd_1 rfl) rfl (by show 2 * 0 + _ ≤ _; exact Nat.le_of_eq rfl) (hb hby at_389) (fun _ _ => ⟨rfl, e115, (by decide : 1 + 0 ≤ _), (by decide : 19 + 0 ≤ _)⟩)
  dsimp only [Pt.U, Pt.locs, Pt.cells, Pt.slots] at X116 l116 y116 z116 st116 hQ116
  subst l116 y116 z116
  obtain ⟨rfl, N116q, e116⟩ := hQ116
  have N116 := Fr.app N115 N116q
  obtain ⟨_, _, ⟨T117, L117, k117, n117⟩, -, X117, ⟨Lc117, hQ117, l117, y117, z117⟩, st117⟩ := Jvm.LawKit.callS X116 hx (y := (⟨"com/example/syndicata/syndicata/Accrual", "accruedUnits", "(JJIJII)J"⟩ : MethodName)) hown (mvT hZ (hw _ (List.mem_of_getElem? (i := 28) rfl))) (mvT hZ (hw _ (List.mem_of_getElem? (i := 29) rfl))) (mvT hZ (hw _ (List.mem_of_getElem? (i := 30) rfl))) (mvT hZ (hw _ (List.mem_of_getElem? (i := 31) rfl))) (by decide) (backOf (W := 0) (rm3_N0 l Z a0 hw [] (centF cc (rdF rate days)) (rate.toInt64) (ss % (24 : Int32)) (days.toInt64) (ydF y) (pp % (24 : Int32)) N hf1 n0 Zf hN hN1 fhc18 fhc37 fhc50 fhc67 fhc79 fhc90 fhnz118 fhnz125 fhc134 fhc143 fhnz162 fhnz171 fhc185 fhc212 fhc225) hZ (hw _ (List.mem_of_getElem? (i := 31) rfl)) (hw _ (List.mem_of_getElem? (i := 30) rfl)) (by decide) (by decide)) (g := (mkF m 444 #[.val (.long cc), .second, .val (.int rate), .val (.int days), .val (.int y), .val (.int pp), .val (.int ss), .val (.ref b), .val (.long (9223372036854775807 : Int64)), .second, .val (.int (ydF y)), .val (.int (pp % (24 : Int32))), .val (.int (ss % (24 : Int32))), .val (.int (tL pp ss)), .val (.long (rdF rate days)), .second, .val (.long (rdF rate days)), .second, .val (.long (divF (ydF y) (powF N))), .second, .val (.long (centF cc (rdF rate days))), .second, .val (.long ((centF cc (rdF rate days)) * (rdF rate days))), .second, .val (.long (((centF cc (rdF rate days)) * (rdF rate days)) / (divF (ydF y) (powF N)))), .second, .val (.long (absL (((centF cc (rdF rate days)) * (rdF rate days)) % (divF (ydF y) (powF N))))), .second, .val (.long (0 : Int64)), .second, .val (.long ((((centF cc (rdF rate days)) * (rdF rate days)) / (divF (ydF y) (powF N))) + (0 : Int64))), .second] [(.int (pp % (24 : Int32))), (.int (ydF y)), (.long (days.toInt64)), (.int (ss % (24 : Int32))), (.long (rate.toInt64)), (.long (centF cc (rdF rate days)))])) rfl (by rw [hml]; rfl) (argsL := [(.long (centF cc (rdF rate days))), (.long (rate.toInt64)), (.int (ss % (24 : Int32))), (.long (days.toInt64)), (.int (ydF y)), (.int (pp % (24 : Int32)))]) (rest := []) (lenOf pd_2 rfl) rfl (by show 2 * 0 + _ ≤ _; exact Nat.le_of_eq rfl) (hb hby at_444) (fun _ _ => ⟨rfl, e116, (by decide : 1 + 0 ≤ _), (by decide : 19 + 0 ≤ _)⟩)
  dsimp only [Pt.U, Pt.locs, Pt.cells, Pt.slots] at X117 l117 y117 z117 st117 hQ117
  subst l117 y117 z117
  obtain ⟨rfl, N117q, e117⟩ := hQ117
  have N117 := Fr.app N116 N117q
  obtain ⟨fs, hr, hrun, hended, hW, hsame⟩ := X117.leave (v := some (.int (1 : Int32))) (fun h => by rw [Bd.returns] at h; cases h)
  refine ⟨_, _, pre0 _ ?_, hrun, hended, _, _, rfl, ?_, ⟨_, rfl⟩, hW, hsame.mono (by decide) (by decide)⟩
  · show Steps p.tables e below (s₁.setTop (mkF m 0 #[.val (.long cc), .second, .val (.int rate), .val (.int days), .val (.int y), .val (.int pp), .val (.int ss), .unset, .unset, .unset, .unset, .unset, .unset, .unset, .unset, .unset, .unset, .unset, .unset, .unset, .unset, .unset, .unset, .unset, .unset, .unset, .unset, .unset, .unset, .unset, .unset, .unset] [])) _
    refine stf _ ?_
    show Steps p.tables e below (Tf.setTop (mkF m 131 #[.val (.long cc), .second, .val (.int rate), .val (.int days), .val (.int y), .val (.int pp), .val (.int ss), .val (.ref b), .unset, .unset, .unset, .unset, .unset, .unset, .unset, .unset, .unset, .unset, .unset, .unset, .unset, .unset, .unset, .unset, .unset, .unset, .unset, .unset, .unset, .unset, .unset, .unset] [])) _
    refine Xf.ldc2Long hx hown (mvT hZ (hw _ (List.mem_of_getElem? (i := 19) rfl))) (g := (mkF m 131 #[.val (.long cc), .second, .val (.int rate), .val (.int days), .val (.int y), .val (.int pp), .val (.int ss), .val (.ref b), .unset, .unset, .unset, .unset, .unset, .unset, .unset, .unset, .unset, .unset, .unset, .unset, .unset, .unset, .unset, .unset, .unset, .unset, .unset, .unset, .unset, .unset, .unset, .unset] [])) rfl (hb hby at_131) _ ?_
    refine XS.lstore Xf.here hx rfl (hb hby at_134) rfl (l' := #[.val (.long cc), .second, .val (.int rate), .val (.int days), .val (.int y), .val (.int pp), .val (.int ss), .val (.ref b), .val (.long (9223372036854775807 : Int64)), .second, .unset, .unset, .unset, .unset, .unset, .unset, .unset, .unset, .unset, .unset, .unset, .unset, .unset, .unset, .unset, .unset, .unset, .unset, .unset, .unset, .unset, .unset]) rfl ?_
    refine XS.iconst Xf.here hx rfl (hb hby at_136) ?_
    refine XS.iload Xf.here hx rfl (hb hby at_137) rfl ?_
    refine Xf.ldcInt hx hown (mvT hZ (hw _ (List.mem_of_getElem? (i := 20) rfl))) (g := (mkF m 139 #[.val (.long cc), .second, .val (.int rate), .val (.int days), .val (.int y), .val (.int pp), .val (.int ss), .val (.ref b), .val (.long (9223372036854775807 : Int64)), .second, .unset, .unset, .unset, .unset, .unset, .unset, .unset, .unset, .unset, .unset, .unset, .unset, .unset, .unset, .unset, .unset, .unset, .unset, .unset, .unset, .unset, .unset] [(.int y), (.int (1 : Int32))])) rfl (hb hby at_139) _ ?_
    refine XS.iand Xf.here hx rfl (hb hby at_141) rfl ?_
    show Steps p.tables e below (Tf.setTop (mkF m 142 #[.val (.long cc), .second, .val (.int rate), .val (.int days), .val (.int y), .val (.int pp), .val (.int ss), .val (.ref b), .val (.long (9223372036854775807 : Int64)), .second, .unset, .unset, .unset, .unset, .unset, .unset, .unset, .unset, .unset, .unset, .unset, .unset, .unset, .unset, .unset, .unset, .unset, .unset, .unset, .unset, .unset, .unset] [(.int (y &&& (2147483647 : Int32))), (.int (1 : Int32))])) _
    refine st114 _ ?_
    show Steps p.tables e below (T114.setTop (mkF m 145 #[.val (.long cc), .second, .val (.int rate), .val (.int days), .val (.int y), .val (.int pp), .val (.int ss), .val (.ref b), .val (.long (9223372036854775807 : Int64)), .second, .unset, .unset, .unset, .unset, .unset, .unset, .unset, .unset, .unset, .unset, .unset, .unset, .unset, .unset, .unset, .unset, .unset, .unset, .unset, .unset, .unset, .unset] [(.int (ydF y))])) _
    refine XS.istore X114.here hx rfl (hb hby at_145) rfl (l' := #[.val (.long cc), .second, .val (.int rate), .val (.int days), .val (.int y), .val (.int pp), .val (.int ss), .val (.ref b), .val (.long (9223372036854775807 : Int64)), .second, .val (.int (ydF y)), .unset, .unset, .unset, .unset, .unset, .unset, .unset, .unset, .unset, .unset, .unset, .unset, .unset, .unset, .unset, .unset, .unset, .unset, .unset, .unset, .unset]) rfl ?_
    refine XS.iload X114.here hx rfl (hb hby at_147) rfl ?_
    refine XS.bipush X114.here hx rfl (hb hby at_149) ?_
    refine gwIrem X114.here hx rfl (hb hby at_151) rfl (by decide : ¬ ((24 : Int32) = (0 : Int32))) ?_
    refine XS.istore X114.here hx rfl (hb hby at_152) rfl (l' := #[.val (.long cc), .second, .val (.int rate), .val (.int days), .val (.int y), .val (.int pp), .val (.int ss), .val (.ref b), .val (.long (9223372036854775807 : Int64)), .second, .val (.int (ydF y)), .val (.int (pp % (24 : Int32))), .unset, .unset, .unset, .unset, .unset, .unset, .unset, .unset, .unset, .unset, .unset, .unset, .unset, .unset, .unset, .unset, .unset, .unset, .unset, .unset]) rfl ?_
    refine XS.iload X114.here hx rfl (hb hby at_154) rfl ?_
    refine XS.bipush X114.here hx rfl (hb hby at_156) ?_
    refine gwIrem X114.here hx rfl (hb hby at_158) rfl (by decide : ¬ ((24 : Int32) = (0 : Int32))) ?_
    show Steps p.tables e below (T114.setTop (mkF m 159 #[.val (.long cc), .second, .val (.int rate), .val (.int days), .val (.int y), .val (.int pp), .val (.int ss), .val (.ref b), .val (.long (9223372036854775807 : Int64)), .second, .val (.int (ydF y)), .val (.int (pp % (24 : Int32))), .unset, .unset, .unset, .unset, .unset, .unset, .unset, .unset, .unset, .unset, .unset, .unset, .unset, .unset, .unset, .unset, .unset, .unset, .unset, .unset] [(.int (ss % (24 : Int32)))])) _
    refine XS.istore X114.here hx rfl (hb hby at_159) rfl (l' := #[.val (.long cc), .second, .val (.int rate), .val (.int days), .val (.int y), .val (.int pp), .val (.int ss), .val (.ref b), .val (.long (9223372036854775807 : Int64)), .second, .val (.int (ydF y)), .val (.int (pp % (24 : Int32))), .val (.int (ss % (24 : Int32))), .unset, .unset, .unset, .unset, .unset, .unset, .unset, .unset, .unset, .unset, .unset, .unset, .unset, .unset, .unset, .unset, .unset, .unset, .unset]) rfl ?_
    refine XS.iload X114.here hx rfl (hb hby at_161) rfl ?_
    refine XS.iconst X114.here hx rfl (hb hby at_163) ?_
    refine XS.isub X114.here hx rfl (hb hby at_164) rfl ?_
    refine XS.iload X114.here hx rfl (hb hby at_165) rfl ?_
    refine XS.isub X114.here hx rfl (hb hby at_167) rfl ?_
    show Steps p.tables e below (T114.setTop (mkF m 168 #[.val (.long cc), .second, .val (.int rate), .val (.int days), .val (.int y), .val (.int pp), .val (.int ss), .val (.ref b), .val (.long (9223372036854775807 : Int64)), .second, .val (.int (ydF y)), .val (.int (pp % (24 : Int32))), .val (.int (ss % (24 : Int32))), .unset, .unset, .unset, .unset, .unset, .unset, .unset, .unset, .unset, .unset, .unset, .unset, .unset, .unset, .unset, .unset, .unset, .unset, .unset] [(.int (tL pp ss))])) _
    refine XS.istore X114.here hx rfl (hb hby at_168) rfl (l' := #[.val (.long cc), .second, .val (.int rate), .val (.int days), .val (.int y), .val (.int pp), .val (.int ss), .val (.ref b), .val (.long (9223372036854775807 : Int64)), .second, .val (.int (ydF y)), .val (.int (pp % (24 : Int32))), .val (.int (ss % (24 : Int32))), .val (.int (tL pp ss)), .unset, .unset, .unset, .unset, .unset, .unset, .unset, .unset, .unset, .unset, .unset, .unset, .unset, .unset, .unset, .unset, .unset, .unset]) rfl ?_
    refine XS.iload X114.here hx rfl (hb hby at_170) rfl ?_
    refine XS.bipush X114.here hx rfl (hb hby at_172) ?_
    refine XS.icmpNo X114.here hx rfl (hb hby at_174) rfl (flt hc174).2.2.1 ?_
    refine XS.iload X114.here hx rfl (hb hby at_177) rfl ?_
    refine XS.bipush X114.here hx rfl (hb hby at_179) ?_
    refine XS.icmpYes X114.here hx rfl (pc0 := 181) (pc' := 211) rfl (hb hby at_181) rfl (flt hc181).2.1 (by decide) (by decide) ?_
    refine XS.iloadN X114.here hx rfl (hb hby at_211) rfl ?_
    show Steps p.tables e below (T114.setTop (mkF m 212 #[.val (.long cc), .second, .val (.int rate), .val (.int days), .val (.int y), .val (.int pp), .val (.int ss), .val (.ref b), .val (.long (9223372036854775807 : Int64)), .second, .val (.int (ydF y)), .val (.int (pp % (24 : Int32))), .val (.int (ss % (24 : Int32))), .val (.int (tL pp ss)), .unset, .unset, .unset, .unset, .unset, .unset, .unset, .unset, .unset, .unset, .unset, .unset, .unset, .unset, .unset, .unset, .unset, .unset] [(.int rate)])) _
    refine XS.i2l X114.here hx rfl (hb hby at_212) rfl ?_
    refine XS.iloadN X114.here hx rfl (hb hby at_213) rfl ?_
    refine XS.i2l X114.here hx rfl (hb hby at_214) rfl ?_
    refine XS.lmul X114.here hx rfl (hb hby at_215) rfl ?_
    show Steps p.tables e below (T114.setTop (mkF m 216 #[.val (.long cc), .second, .val (.int rate), .val (.int days), .val (.int y), .val (.int pp), .val (.int ss), .val (.ref b), .val (.long (9223372036854775807 : Int64)), .second, .val (.int (ydF y)), .val (.int (pp % (24 : Int32))), .val (.int (ss % (24 : Int32))), .val (.int (tL pp ss)), .unset, .unset, .unset, .unset, .unset, .unset, .unset, .unset, .unset, .unset, .unset, .unset, .unset, .unset, .unset, .unset, .unset, .unset] [(.long (rdF rate days))])) _
    refine XS.lstore X114.here hx rfl (hb hby at_216) rfl (l' := #[.val (.long cc), .second, .val (.int rate), .val (.int days), .val (.int y), .val (.int pp), .val (.int ss), .val (.ref b), .val (.long (9223372036854775807 : Int64)), .second, .val (.int (ydF y)), .val (.int (pp % (24 : Int32))), .val (.int (ss % (24 : Int32))), .val (.int (tL pp ss)), .val (.long (rdF rate days)), .second, .unset, .unset, .unset, .unset, .unset, .unset, .unset, .unset, .unset, .unset, .unset, .unset, .unset, .unset, .unset, .unset]) rfl ?_
    refine XS.iload X114.here hx rfl (hb hby at_218) rfl ?_
    refine XS.ifYes X114.here hx rfl (pc0 := 220) (pc' := 285) rfl (hb hby at_220) rfl ((if0 _ _).trans (flt hc220).2.2.2) (by decide) (by decide) ?_
    refine XS.iload X114.here hx rfl (hb hby at_285) rfl ?_
    refine XS.ineg X114.here hx rfl (hb hby at_287) rfl ?_
    refine XS.istore X114.here hx rfl (hb hby at_288) rfl (l' := #[.val (.long cc), .second, .val (.int rate), .val (.int days), .val (.int y), .val (.int pp), .val (.int ss), .val (.ref b), .val (.long (9223372036854775807 : Int64)), .second, .val (.int (ydF y)), .val (.int (pp % (24 : Int32))), .val (.int (ss % (24 : Int32))), .val (.int (tL pp ss)), .val (.long (rdF rate days)), .second, .unset, .unset, .unset, .unset, .val (.int (-(tL pp ss))), .unset, .unset, .unset, .unset, .unset, .unset, .unset, .unset, .unset, .unset, .unset]) rfl ?_
    refine XS.iload X114.here hx rfl (hb hby at_290) rfl ?_
    refine XS.i2l X114.here hx rfl (hb hby at_292) rfl ?_
    show Steps p.tables e below (T114.setTop (mkF m 293 #[.val (.long cc), .second, .val (.int rate), .val (.int days), .val (.int y), .val (.int pp), .val (.int ss), .val (.ref b), .val (.long (9223372036854775807 : Int64)), .second, .val (.int (ydF y)), .val (.int (pp % (24 : Int32))), .val (.int (ss % (24 : Int32))), .val (.int (tL pp ss)), .val (.long (rdF rate days)), .second, .unset, .unset, .unset, .unset, .val (.int (-(tL pp ss))), .unset, .unset, .unset, .unset, .unset, .unset, .unset, .unset, .unset, .unset, .unset] [(.long ((ydF y).toInt64))])) _
    refine XS.lload X114.here hx rfl (hb hby at_293) rfl ?_
    refine XS.aload X114.here hx rfl (hb hby at_295) rfl rfl ?_
    refine XS.iload X114.here hx rfl (hb hby at_297) rfl ?_
    show Steps p.tables e below (T114.setTop (mkF m 299 #[.val (.long cc), .second, .val (.int rate), .val (.int days), .val (.int y), .val (.int pp), .val (.int ss), .val (.ref b), .val (.long (9223372036854775807 : Int64)), .second, .val (.int (ydF y)), .val (.int (pp % (24 : Int32))), .val (.int (ss % (24 : Int32))), .val (.int (tL pp ss)), .val (.long (rdF rate days)), .second, .unset, .unset, .unset, .unset, .val (.int (-(tL pp ss))), .unset, .unset, .unset, .unset, .unset, .unset, .unset, .unset, .unset, .unset, .unset] [(.int (-(tL pp ss))), (.ref b), (.long (9223372036854775807 : Int64)), (.long ((ydF y).toInt64))])) _
    refine X114.laload hx (j := (-(tL pp ss))) (v := (.long (powF N))) (by rw [e114]; exact Ar.1) (State.isArrayOf_alike hZ.alike Ar.2.1) Ar.2.2 hin hat (g := (mkF m 299 #[.val (.long cc), .second, .val (.int rate), .val (.int days), .val (.int y), .val (.int pp), .val (.int ss), .val (.ref b), .val (.long (9223372036854775807 : Int64)), .second, .val (.int (ydF y)), .val (.int (pp % (24 : Int32))), .val (.int (ss % (24 : Int32))), .val (.int (tL pp ss)), .val (.long (rdF rate days)), .second, .unset, .unset, .unset, .unset, .val (.int (-(tL pp ss))), .unset, .unset, .unset, .unset, .unset, .unset, .unset, .unset, .unset, .unset, .unset] [(.int (-(tL pp ss))), (.ref b), (.long (9223372036854775807 : Int64)), (.long ((ydF y).toInt64))])) rfl rfl (hb hby at_299) _ ?_
    refine XS.ldiv X114.here hx rfl (hb hby at_300) rfl hnz300 ?_
    refine XS.lcmp X114.here hx rfl (hb hby at_301) rfl ?_
    refine XS.ifYes X114.here hx rfl (pc0 := 302) (pc' := 332) rfl (hb hby at_302) rfl ((if0 _ _).trans (flt hc302).2.2.2) (by decide) (by decide) ?_
    refine XS.lload X114.here hx rfl (hb hby at_332) rfl ?_
    refine XS.lstore X114.here hx rfl (hb hby at_334) rfl (l' := #[.val (.long cc), .second, .val (.int rate), .val (.int days), .val (.int y), .val (.int pp), .val (.int ss), .val (.ref b), .val (.long (9223372036854775807 : Int64)), .second, .val (.int (ydF y)), .val (.int (pp % (24 : Int32))), .val (.int (ss % (24 : Int32))), .val (.int (tL pp ss)), .val (.long (rdF rate days)), .second, .val (.long (rdF rate days)), .second, .unset, .unset, .val (.int (-(tL pp ss))), .unset, .unset, .unset, .unset, .unset, .unset, .unset, .unset, .unset, .unset, .unset]) rfl ?_
    refine XS.iload X114.here hx rfl (hb hby at_336) rfl ?_
    refine XS.i2l X114.here hx rfl (hb hby at_338) rfl ?_
    show Steps p.tables e below (T114.setTop (mkF m 339 #[.val (.long cc), .second, .val (.int rate), .val (.int days), .val (.int y), .val (.int pp), .val (.int ss), .val (.ref b), .val (.long (9223372036854775807 : Int64)), .second, .val (.int (ydF y)), .val (.int (pp % (24 : Int32))), .val (.int (ss % (24 : Int32))), .val (.int (tL pp ss)), .val (.long (rdF rate days)), .second, .val (.long (rdF rate days)), .second, .unset, .unset, .val (.int (-(tL pp ss))), .unset, .unset, .unset, .unset, .unset, .unset, .unset, .unset, .unset, .unset, .unset] [(.long ((ydF y).toInt64))])) _
    refine XS.aload X114.here hx rfl (hb hby at_339) rfl rfl ?_
    refine XS.iload X114.here hx rfl (hb hby at_341) rfl ?_
    show Steps p.tables e below (T114.setTop (mkF m 343 #[.val (.long cc), .second, .val (.int rate), .val (.int days), .val (.int y), .val (.int pp), .val (.int ss), .val (.ref b), .val (.long (9223372036854775807 : Int64)), .second, .val (.int (ydF y)), .val (.int (pp % (24 : Int32))), .val (.int (ss % (24 : Int32))), .val (.int (tL pp ss)), .val (.long (rdF rate days)), .second, .val (.long (rdF rate days)), .second, .unset, .unset, .val (.int (-(tL pp ss))), .unset, .unset, .unset, .unset, .unset, .unset, .unset, .unset, .unset, .unset, .unset] [(.int (-(tL pp ss))), (.ref b), (.long ((ydF y).toInt64))])) _
    refine X114.laload hx (j := (-(tL pp ss))) (v := (.long (powF N))) (by rw [e114]; exact Ar.1) (State.isArrayOf_alike hZ.alike Ar.2.1) Ar.2.2 hin hat (g := (mkF m 343 #[.val (.long cc), .second, .val (.int rate), .val (.int days), .val (.int y), .val (.int pp), .val (.int ss), .val (.ref b), .val (.long (9223372036854775807 : Int64)), .second, .val (.int (ydF y)), .val (.int (pp % (24 : Int32))), .val (.int (ss % (24 : Int32))), .val (.int (tL pp ss)), .val (.long (rdF rate days)), .second, .val (.long (rdF rate days)), .second, .unset, .unset, .val (.int (-(tL pp ss))), .unset, .unset, .unset, .unset, .unset, .unset, .unset, .unset, .unset, .unset, .unset] [(.int (-(tL pp ss))), (.ref b), (.long ((ydF y).toInt64))])) rfl rfl (hb hby at_343) _ ?_
    refine XS.lmul X114.here hx rfl (hb hby at_344) rfl ?_
    show Steps p.tables e below (T114.setTop (mkF m 345 #[.val (.long cc), .second, .val (.int rate), .val (.int days), .val (.int y), .val (.int pp), .val (.int ss), .val (.ref b), .val (.long (9223372036854775807 : Int64)), .second, .val (.int (ydF y)), .val (.int (pp % (24 : Int32))), .val (.int (ss % (24 : Int32))), .val (.int (tL pp ss)), .val (.long (rdF rate days)), .second, .val (.long (rdF rate days)), .second, .unset, .unset, .val (.int (-(tL pp ss))), .unset, .unset, .unset, .unset, .unset, .unset, .unset, .unset, .unset, .unset, .unset] [(.long (divF (ydF y) (powF N)))])) _
    refine XS.lstore X114.here hx rfl (hb hby at_345) rfl (l' := #[.val (.long cc), .second, .val (.int rate), .val (.int days), .val (.int y), .val (.int pp), .val (.int ss), .val (.ref b), .val (.long (9223372036854775807 : Int64)), .second, .val (.int (ydF y)), .val (.int (pp % (24 : Int32))), .val (.int (ss % (24 : Int32))), .val (.int (tL pp ss)), .val (.long (rdF rate days)), .second, .val (.long (rdF rate days)), .second, .val (.long (divF (ydF y) (powF N))), .second, .val (.int (-(tL pp ss))), .unset, .unset, .unset, .unset, .unset, .unset, .unset, .unset, .unset, .unset, .unset]) rfl ?_
    refine XS.lload X114.here hx rfl (hb hby at_347) rfl ?_
    refine XS.lconst X114.here hx rfl (hb hby at_349) ?_
    refine XS.lcmp X114.here hx rfl (hb hby at_350) rfl ?_
    refine XS.ifYes X114.here hx rfl (pc0 := 351) (pc' := 358) rfl (hb hby at_351) rfl ((if0 _ _).trans (feq hc351).2) (by decide) (by decide) ?_
    refine XS.lloadN X114.here hx rfl (hb hby at_358) rfl ?_
    refine XS.lload X114.here hx rfl (hb hby at_359) rfl ?_
    refine XS.lload X114.here hx rfl (hb hby at_361) rfl ?_
    show Steps p.tables e below (T114.setTop (mkF m 363 #[.val (.long cc), .second, .val (.int rate), .val (.int days), .val (.int y), .val (.int pp), .val (.int ss), .val (.ref b), .val (.long (9223372036854775807 : Int64)), .second, .val (.int (ydF y)), .val (.int (pp % (24 : Int32))), .val (.int (ss % (24 : Int32))), .val (.int (tL pp ss)), .val (.long (rdF rate days)), .second, .val (.long (rdF rate days)), .second, .val (.long (divF (ydF y) (powF N))), .second, .val (.int (-(tL pp ss))), .unset, .unset, .unset, .unset, .unset, .unset, .unset, .unset, .unset, .unset, .unset] [(.long (rdF rate days)), (.long (9223372036854775807 : Int64)), (.long cc)])) _
    refine st115 _ ?_
    refine XS.ldiv X115.here hx rfl (hb hby at_366) rfl hnz366 ?_
    refine gwLrem X115.here hx rfl (hb hby at_367) rfl hnz367 ?_
    show Steps p.tables e below (T115.setTop (mkF m 368 #[.val (.long cc), .second, .val (.int rate), .val (.int days), .val (.int y), .val (.int pp), .val (.int ss), .val (.ref b), .val (.long (9223372036854775807 : Int64)), .second, .val (.int (ydF y)), .val (.int (pp % (24 : Int32))), .val (.int (ss % (24 : Int32))), .val (.int (tL pp ss)), .val (.long (rdF rate days)), .second, .val (.long (rdF rate days)), .second, .val (.long (divF (ydF y) (powF N))), .second, .val (.int (-(tL pp ss))), .unset, .unset, .unset, .unset, .unset, .unset, .unset, .unset, .unset, .unset, .unset] [(.long (centF cc (rdF rate days)))])) _
    refine XS.lstore X115.here hx rfl (hb hby at_368) rfl (l' := #[.val (.long cc), .second, .val (.int rate), .val (.int days), .val (.int y), .val (.int pp), .val (.int ss), .val (.ref b), .val (.long (9223372036854775807 : Int64)), .second, .val (.int (ydF y)), .val (.int (pp % (24 : Int32))), .val (.int (ss % (24 : Int32))), .val (.int (tL pp ss)), .val (.long (rdF rate days)), .second, .val (.long (rdF rate days)), .second, .val (.long (divF (ydF y) (powF N))), .second, .val (.long (centF cc (rdF rate days))), .second, .unset, .unset, .unset, .unset, .unset, .unset, .unset, .unset, .unset, .unset]) rfl ?_
    refine XS.lload X115.here hx rfl (hb hby at_370) rfl ?_
    refine XS.lload X115.here hx rfl (hb hby at_372) rfl ?_
    refine XS.lmul X115.here hx rfl (hb hby at_374) rfl ?_
    refine XS.lstore X115.here hx rfl (hb hby at_375) rfl (l' := #[.val (.long cc), .second, .val (.int rate), .val (.int days), .val (.int y), .val (.int pp), .val (.int ss), .val (.ref b), .val (.long (9223372036854775807 : Int64)), .second, .val (.int (ydF y)), .val (.int (pp % (24 : Int32))), .val (.int (ss % (24 : Int32))), .val (.int (tL pp ss)), .val (.long (rdF rate days)), .second, .val (.long (rdF rate days)), .second, .val (.long (divF (ydF y) (powF N))), .second, .val (.long (centF cc (rdF rate days))), .second, .val (.long ((centF cc (rdF rate days)) * (rdF rate days))), .second, .unset, .unset, .unset, .unset, .unset, .unset, .unset, .unset]) rfl ?_
    refine XS.lload X115.here hx rfl (hb hby at_377) rfl ?_
    refine XS.lload X115.here hx rfl (hb hby at_379) rfl ?_
    refine XS.ldiv X115.here hx rfl (hb hby at_381) rfl hnz381 ?_
    show Steps p.tables e below (T115.setTop (mkF m 382 #[.val (.long cc), .second, .val (.int rate), .val (.int days), .val (.int y), .val (.int pp), .val (.int ss), .val (.ref b), .val (.long (9223372036854775807 : Int64)), .second, .val (.int (ydF y)), .val (.int (pp % (24 : Int32))), .val (.int (ss % (24 : Int32))), .val (.int (tL pp ss)), .val (.long (rdF rate days)), .second, .val (.long (rdF rate days)), .second, .val (.long (divF (ydF y) (powF N))), .second, .val (.long (centF cc (rdF rate days))), .second, .val (.long ((centF cc (rdF rate days)) * (rdF rate days))), .second, .unset, .unset, .unset, .unset, .unset, .unset, .unset, .unset] [(.long (((centF cc (rdF rate days)) * (rdF rate days)) / (divF (ydF y) (powF N))))])) _
    refine XS.lstore X115.here hx rfl (hb hby at_382) rfl (l' := #[.val (.long cc), .second, .val (.int rate), .val (.int days), .val (.int y), .val (.int pp), .val (.int ss), .val (.ref b), .val (.long (9223372036854775807 : Int64)), .second, .val (.int (ydF y)), .val (.int (pp % (24 : Int32))), .val (.int (ss % (24 : Int32))), .val (.int (tL pp ss)), .val (.long (rdF rate days)), .second, .val (.long (rdF rate days)), .second, .val (.long (divF (ydF y) (powF N))), .second, .val (.long (centF cc (rdF rate days))), .second, .val (.long ((centF cc (rdF rate days)) * (rdF rate days))), .second, .val (.long (((centF cc (rdF rate days)) * (rdF rate days)) / (divF (ydF y) (powF N)))), .second, .unset, .unset, .unset, .unset, .unset, .unset]) rfl ?_
    refine XS.lload X115.here hx rfl (hb hby at_384) rfl ?_
    refine XS.lload X115.here hx rfl (hb hby at_386) rfl ?_
    refine gwLrem X115.here hx rfl (hb hby at_388) rfl hnz388 ?_
    show Steps p.tables e below (T115.setTop (mkF m 389 #[.val (.long cc), .second, .val (.int rate), .val (.int days), .val (.int y), .val (.int pp), .val (.int ss), .val (.ref b), .val (.long (9223372036854775807 : Int64)), .second, .val (.int (ydF y)), .val (.int (pp % (24 : Int32))), .val (.int (ss % (24 : Int32))), .val (.int (tL pp ss)), .val (.long (rdF rate days)), .second, .val (.long (rdF rate days)), .second, .val (.long (divF (ydF y) (powF N))), .second, .val (.long (centF cc (rdF rate days))), .second, .val (.long ((centF cc (rdF rate days)) * (rdF rate days))), .second, .val (.long (((centF cc (rdF rate days)) * (rdF rate days)) / (divF (ydF y) (powF N)))), .second, .unset, .unset, .unset, .unset, .unset, .unset] [(.long (((centF cc (rdF rate days)) * (rdF rate days)) % (divF (ydF y) (powF N))))])) _
    refine st116 _ ?_
    refine XS.lstore X116.here hx rfl (hb hby at_392) rfl (l' := #[.val (.long cc), .second, .val (.int rate), .val (.int days), .val (.int y), .val (.int pp), .val (.int ss), .val (.ref b), .val (.long (9223372036854775807 : Int64)), .second, .val (.int (ydF y)), .val (.int (pp % (24 : Int32))), .val (.int (ss % (24 : Int32))), .val (.int (tL pp ss)), .val (.long (rdF rate days)), .second, .val (.long (rdF rate days)), .second, .val (.long (divF (ydF y) (powF N))), .second, .val (.long (centF cc (rdF rate days))), .second, .val (.long ((centF cc (rdF rate days)) * (rdF rate days))), .second, .val (.long (((centF cc (rdF rate days)) * (rdF rate days)) / (divF (ydF y) (powF N)))), .second, .val (.long (absL (((centF cc (rdF rate days)) * (rdF rate days)) % (divF (ydF y) (powF N))))), .second, .unset, .unset, .unset, .unset]) rfl ?_
    refine XS.lload X116.here hx rfl (hb hby at_394) rfl ?_
    refine XS.lload X116.here hx rfl (hb hby at_396) rfl ?_
    refine XS.lload X116.here hx rfl (hb hby at_398) rfl ?_
    refine XS.lsub X116.here hx rfl (hb hby at_400) rfl ?_
    refine XS.lcmp X116.here hx rfl (hb hby at_401) rfl ?_
    refine XS.ifYes X116.here hx rfl (pc0 := 402) (pc' := 422) rfl (hb hby at_402) rfl ((if0 _ _).trans (tlt hc402).1) (by decide) (by decide) ?_
    show Steps p.tables e below (T116.setTop (mkF m 422 #[.val (.long cc), .second, .val (.int rate), .val (.int days), .val (.int y), .val (.int pp), .val (.int ss), .val (.ref b), .val (.long (9223372036854775807 : Int64)), .second, .val (.int (ydF y)), .val (.int (pp % (24 : Int32))), .val (.int (ss % (24 : Int32))), .val (.int (tL pp ss)), .val (.long (rdF rate days)), .second, .val (.long (rdF rate days)), .second, .val (.long (divF (ydF y) (powF N))), .second, .val (.long (centF cc (rdF rate days))), .second, .val (.long ((centF cc (rdF rate days)) * (rdF rate days))), .second, .val (.long (((centF cc (rdF rate days)) * (rdF rate days)) / (divF (ydF y) (powF N)))), .second, .val (.long (absL (((centF cc (rdF rate days)) * (rdF rate days)) % (divF (ydF y) (powF N))))), .second, .unset, .unset, .unset, .unset] [])) _
    refine XS.lconst X116.here hx rfl (hb hby at_422) ?_
    refine XS.lstore X116.here hx rfl (hb hby at_423) rfl (l' := #[.val (.long cc), .second, .val (.int rate), .val (.int days), .val (.int y), .val (.int pp), .val (.int ss), .val (.ref b), .val (.long (9223372036854775807 : Int64)), .second, .val (.int (ydF y)), .val (.int (pp % (24 : Int32))), .val (.int (ss % (24 : Int32))), .val (.int (tL pp ss)), .val (.long (rdF rate days)), .second, .val (.long (rdF rate days)), .second, .val (.long (divF (ydF y) (powF N))), .second, .val (.long (centF cc (rdF rate days))), .second, .val (.long ((centF cc (rdF rate days)) * (rdF rate days))), .second, .val (.long (((centF cc (rdF rate days)) * (rdF rate days)) / (divF (ydF y) (powF N)))), .second, .val (.long (absL (((centF cc (rdF rate days)) * (rdF rate days)) % (divF (ydF y) (powF N))))), .second, .val (.long (0 : Int64)), .second, .unset, .unset]) rfl ?_
    refine XS.lload X116.here hx rfl (hb hby at_425) rfl ?_
    refine XS.lload X116.here hx rfl (hb hby at_427) rfl ?_
    refine XS.ladd X116.here hx rfl (hb hby at_429) rfl ?_
    refine XS.lstore X116.here hx rfl (hb hby at_430) rfl (l' := #[.val (.long cc), .second, .val (.int rate), .val (.int days), .val (.int y), .val (.int pp), .val (.int ss), .val (.ref b), .val (.long (9223372036854775807 : Int64)), .second, .val (.int (ydF y)), .val (.int (pp % (24 : Int32))), .val (.int (ss % (24 : Int32))), .val (.int (tL pp ss)), .val (.long (rdF rate days)), .second, .val (.long (rdF rate days)), .second, .val (.long (divF (ydF y) (powF N))), .second, .val (.long (centF cc (rdF rate days))), .second, .val (.long ((centF cc (rdF rate days)) * (rdF rate days))), .second, .val (.long (((centF cc (rdF rate days)) * (rdF rate days)) / (divF (ydF y) (powF N)))), .second, .val (.long (absL (((centF cc (rdF rate days)) * (rdF rate days)) % (divF (ydF y) (powF N))))), .second, .val (.long (0 : Int64)), .second, .val (.long ((((centF cc (rdF rate days)) * (rdF rate days)) / (divF (ydF y) (powF N))) + (0 : Int64))), .second]) rfl ?_
    refine XS.lload X116.here hx rfl (hb hby at_432) rfl ?_
    refine XS.iloadN X116.here hx rfl (hb hby at_434) rfl ?_
    show Steps p.tables e below (T116.setTop (mkF m 435 #[.val (.long cc), .second, .val (.int rate), .val (.int days), .val (.int y), .val (.int pp), .val (.int ss), .val (.ref b), .val (.long (9223372036854775807 : Int64)), .second, .val (.int (ydF y)), .val (.int (pp % (24 : Int32))), .val (.int (ss % (24 : Int32))), .val (.int (tL pp ss)), .val (.long (rdF rate days)), .second, .val (.long (rdF rate days)), .second, .val (.long (divF (ydF y) (powF N))), .second, .val (.long (centF cc (rdF rate days))), .second, .val (.long ((centF cc (rdF rate days)) * (rdF rate days))), .second, .val (.long (((centF cc (rdF rate days)) * (rdF rate days)) / (divF (ydF y) (powF N)))), .second, .val (.long (absL (((centF cc (rdF rate days)) * (rdF rate days)) % (divF (ydF y) (powF N))))), .second, .val (.long (0 : Int64)), .second, .val (.long ((((centF cc (rdF rate days)) * (rdF rate days)) / (divF (ydF y) (powF N))) + (0 : Int64))), .second] [(.int rate), (.long (centF cc (rdF rate days)))])) _
    refine XS.i2l X116.here hx rfl (hb hby at_435) rfl ?_
    refine XS.iload X116.here hx rfl (hb hby at_436) rfl ?_
    refine XS.iloadN X116.here hx rfl (hb hby at_438) rfl ?_
    refine XS.i2l X116.here hx rfl (hb hby at_439) rfl ?_
    refine XS.iload X116.here hx rfl (hb hby at_440) rfl ?_
    refine XS.iload X116.here hx rfl (hb hby at_442) rfl ?_
    show Steps p.tables e below (T116.setTop (mkF m 444 #[.val (.long cc), .second, .val (.int rate), .val (.int days), .val (.int y), .val (.int pp), .val (.int ss), .val (.ref b), .val (.long (9223372036854775807 : Int64)), .second, .val (.int (ydF y)), .val (.int (pp % (24 : Int32))), .val (.int (ss % (24 : Int32))), .val (.int (tL pp ss)), .val (.long (rdF rate days)), .second, .val (.long (rdF rate days)), .second, .val (.long (divF (ydF y) (powF N))), .second, .val (.long (centF cc (rdF rate days))), .second, .val (.long ((centF cc (rdF rate days)) * (rdF rate days))), .second, .val (.long (((centF cc (rdF rate days)) * (rdF rate days)) / (divF (ydF y) (powF N)))), .second, .val (.long (absL (((centF cc (rdF rate days)) * (rdF rate days)) % (divF (ydF y) (powF N))))), .second, .val (.long (0 : Int64)), .second, .val (.long ((((centF cc (rdF rate days)) * (rdF rate days)) / (divF (ydF y) (powF N))) + (0 : Int64))), .second] [(.int (pp % (24 : Int32))), (.int (ydF y)), (.long (days.toInt64)), (.int (ss % (24 : Int32))), (.long (rate.toInt64)), (.long (centF cc (rdF rate days)))])) _
    refine st117 _ ?_
    refine XS.lload X117.here hx rfl (hb hby at_447) rfl ?_
    refine XS.lcmp X117.here hx rfl (hb hby at_449) rfl ?_
    refine XS.ifNo X117.here hx rfl (hb hby at_450) rfl ((if0 _ _).trans (teq hc450).2) ?_
    refine XS.iconst X117.here hx rfl (hb hby at_453) ?_
    refine XS.goto X117.here hx rfl (pc0 := 454) (pc' := 458) rfl (hb hby at_454) (by decide) (by decide) ?_
    show Steps p.tables e below (T117.setTop (mkF m 458 #[.val (.long cc), .second, .val (.int rate), .val (.int days), .val (.int y), .val (.int pp), .val (.int ss), .val (.ref b), .val (.long (9223372036854775807 : Int64)), .second, .val (.int (ydF y)), .val (.int (pp % (24 : Int32))), .val (.int (ss % (24 : Int32))), .val (.int (tL pp ss)), .val (.long (rdF rate days)), .second, .val (.long (rdF rate days)), .second, .val (.long (divF (ydF y) (powF N))), .second, .val (.long (centF cc (rdF rate days))), .second, .val (.long ((centF cc (rdF rate days)) * (rdF rate days))), .second, .val (.long (((centF cc (rdF rate days)) * (rdF rate days)) / (divF (ydF y) (powF N)))), .second, .val (.long (absL (((centF cc (rdF rate days)) * (rdF rate days)) % (divF (ydF y) (powF N))))), .second, .val (.long (0 : Int64)), .second, .val (.long ((((centF cc (rdF rate days)) * (rdF rate days)) / (divF (ydF y) (powF N))) + (0 : Int64))), .second] [(.int (1 : Int32))])) _
    exact retN X117 hx (t := .boolean) Bd.returns (by simp) (hb hby at_458) hr
  · show Q0  h0 n0 _ T117.heap _
    exact ⟨rfl, N117⟩
set_option maxRecDepth 65536 in
set_option maxHeartbeats 40000000 in
theorem rm0_N1 (l : Launch) (Z : State) (a0 : Array Value) (hw : ∀ d ∈ tables_1, d.before a0 Z = true) (ws : List Jvm.Cond) (cc : Int64) (rate : Int32) (days : Int32) (y : Int32) (pp : Int32) (ss : Int32) (N : Nat) (h0 : Heap) (n0 : Nat) (Z0 : n0 ≤ h0.size) (hj : (-(tL pp ss)) = Int32.ofNat N) (hj1 : N < 19) (hc174 : ¬ ((18 : Int32) < (tL pp ss))) (hc181 : ¬ ((tL pp ss) < (-18 : Int32))) (hc220 : ¬ ((0 : Int32) < (tL pp ss))) (hnz300 : ¬ ((powF N) = (0 : Int64))) (hc302 : ¬ ((0 : Int32) < (lcmpW ((ydF y).toInt64) ((9223372036854775807 : Int64) / (powF N))))) (hc351 : ¬ ((lcmpW (rdF rate days) (0 : Int64)) = (0 : Int32))) (hnz366 : ¬ ((absL (rdF rate days)) = (0 : Int64))) (hnz367 : ¬ (((9223372036854775807 : Int64) / (absL (rdF rate days))) = (0 : Int64))) (hnz381 : ¬ ((divF (ydF y) (powF N)) = (0 : Int64))) (hnz388 : ¬ ((divF (ydF y) (powF N)) = (0 : Int64))) (hc402 : ¬ ((lcmpW (absL (((centF cc (rdF rate days)) * (rdF rate days)) % (divF (ydF y) (powF N)))) ((divF (ydF y) (powF N)) - (absL (((centF cc (rdF rate days)) * (rdF rate days)) % (divF (ydF y) (powF N)))))) < (0 : Int32))) (hc409 : (0 : Int32) < (lcmpW ((centF cc (rdF rate days)) * (rdF rate days)) (0 : Int64))) (hN : absI (tA (pp % (24 : Int32)) (ss % (24 : Int32))) = Int32.ofNat N) (hN1 : N < 100) (fhc18 : ¬ ((18 : Int32) < (absI (tA (pp % (24 : Int32)) (ss % (24 : Int32)))))) (fhc37 : ¬ ((0 : Int32) < (tA (pp % (24 : Int32)) (ss % (24 : Int32))))) (fhc50 : ¬ ((0 : Int32) < (tA (pp % (24 : Int32)) (ss % (24 : Int32))))) (fhc67 : ¬ ((proF (rate.toInt64) (days.toInt64)) = (0 : Int32))) (fhc79 : ¬ ((proF ((rate.toInt64) * (days.toInt64)) (1 : Int64)) = (0 : Int32))) (fhc90 : ¬ ((proF ((ydF y).toInt64) (powF N)) = (0 : Int32))) (fhnz118 : ¬ ((divF (ydF y) (powF N)) = (0 : Int64))) (fhnz125 : ¬ ((divF (ydF y) (powF N)) = (0 : Int64))) (fhc134 : ¬ ((proF (centF cc (rdF rate days)) ((perF (rate.toInt64) (days.toInt64) (1 : Int64)) / (divF (ydF y) (powF N)))) = (0 : Int32))) (fhc143 : ¬ ((proF (centF cc (rdF rate days)) ((perF (rate.toInt64) (days.toInt64) (1 : Int64)) % (divF (ydF y) (powF N)))) = (0 : Int32))) (fhnz162 : ¬ ((divF (ydF y) (powF N)) = (0 : Int64))) (fhnz171 : ¬ ((divF (ydF y) (powF N)) = (0 : Int64))) (fhc185 : ¬ ((lcmpW (remF (centF cc (rdF rate days)) ((perF (rate.toInt64) (days.toInt64) (1 : Int64)) % (divF (ydF y) (powF N))) (divF (ydF y) (powF N))) ((divF (ydF y) (powF N)) - (remF (centF cc (rdF rate days)) ((perF (rate.toInt64) (days.toInt64) (1 : Int64)) % (divF (ydF y) (powF N))) (divF (ydF y) (powF N))))) < (0 : Int32))) (fhc212 : ¬ ((sumF ((centF cc (rdF rate days)) * ((perF (rate.toInt64) (days.toInt64) (1 : Int64)) / (divF (ydF y) (powF N)))) (((centF cc (rdF rate days)) * ((perF (rate.toInt64) (days.toInt64) (1 : Int64)) % (divF (ydF y) (powF N)))) / (divF (ydF y) (powF N)))) = (0 : Int32))) (fhc225 : ¬ ((sumF (((centF cc (rdF rate days)) * ((perF (rate.toInt64) (days.toInt64) (1 : Int64)) / (divF (ydF y) (powF N)))) + (((centF cc (rdF rate days)) * ((perF (rate.toInt64) (days.toInt64) (1 : Int64)) % (divF (ydF y) (powF N)))) / (divF (ydF y) (powF N)))) (rupF (centF cc (rdF rate days)) (perF (rate.toInt64) (days.toInt64) (1 : Int64)))) = (0 : Int32))) (hc450 : (lcmpW (sum3 ((centF cc (rdF rate days)) * ((perF (rate.toInt64) (days.toInt64) (1 : Int64)) / (divF (ydF y) (powF N)))) (((centF cc (rdF rate days)) * ((perF (rate.toInt64) (days.toInt64) (1 : Int64)) % (divF (ydF y) (powF N)))) / (divF (ydF y) (powF N))) (rupF (centF cc (rdF rate days)) (perF (rate.toInt64) (days.toInt64) (1 : Int64)))) ((((centF cc (rdF rate days)) * (rdF rate days)) / (divF (ydF y) (powF N))) + (1 : Int64))) = (0 : Int32)) :
    MetFree l x (head1 (Jvm.Cond.code x code maxLocals ret :: ws) room_1) (fun aa U => aa = #[(.long cc), (.int rate), (.int days), (.int y), (.int pp), (.int ss)] ∧ Z.Warmed39 U.vm ∧ U.heap = h0) (fun _ _ _ _ _ => True) (fun _ U o U' => ∃ v L, o = .returned v ∧ Q0  h0 n0 v U'.heap L ∧ FrameEnd U o U' L room_1.cells room_1.slots) := by
  refine MetFree.of_bodySF (plainFor_of_name pn_0) hisR ?_
  intro p e s m args below meth c s₁ Bd hml0 hP hK
  obtain ⟨rfl, hZ, hh⟩ := hP
  have hx := Bd.exec
  have hby := Bd.bytes
  have hml : c.maxLocals = 32 := hml0
  have hown : s.vm.findClass "com/example/syndicata/syndicata/AccrualAccruedUnitsPinLaw" = some m.cls := findClass_of_methodNamed Bd.named
  have hnm := (name_of_methodNamed Bd.named Bd.method).1
  have X0 : Stand p l e room_1 s m #[(.long cc), (.int rate), (.int days), (.int y), (.int pp), (.int ss)] below meth c s₁ [] 0 0 := Stand.of_body Bd
  have e0 : s₁.heap = h0 := by rw [← hh, Bd.state]; rfl
  have N0 := Fr.nil n0
  have pre0 : ∀ zz, Steps p.tables e below (s₁.setTop (mkF m 0 #[.val (.long cc), .second, .val (.int rate), .val (.int days), .val (.int y), .val (.int pp), .val (.int ss), .unset, .unset, .unset, .unset, .unset, .unset, .unset, .unset, .unset, .unset, .unset, .unset, .unset, .unset, .unset, .unset, .unset, .unset, .unset, .unset, .unset, .unset, .unset, .unset, .unset] [])) zz → Steps p.tables e below (s₁.setTop (entryFrame m #[(.long cc), (.int rate), (.int days), (.int y), (.int pp), (.int ss)] maxLocals)) zz := fun zz k => castTop (ef_0 m cc rate days y pp ss) k
  obtain ⟨Tf, hf1, b, kk, locs1, Xf, ef, Zf, Vf, Nf, stf⟩ := fill0 (n0 := n0) cc rate days y pp ss X0 hx hZ hw hby hown e0 Z0
  obtain ⟨cl, Ar, q_, S_, N_, H_, G_⟩ := Vf
  have hjc : ((-(tL pp ss))).toNatClampNeg = N := by rw [hj]; exact ofNat_clamp (by omega)
  have hsz : cl.slots.size = 19 := S_
  have hin : ¬ ((-(tL pp ss)) < 0 ∨ cl.slots.size ≤ ((-(tL pp ss))).toNatClampNeg) := by rw [hjc, hsz]; exact fun q => q.elim (by rw [hj]; exact ofNat_nn (by omega)) (fun q => absurd q (by omega))
  have hat : cl.slots[((-(tL pp ss))).toNatClampNeg]? = some (.long (powF N)) := by rw [hjc, H_ N (by omega), tens_at N hj1]
  obtain ⟨_, _, ⟨T118, L118, k118, n118⟩, -, X118, ⟨Lc118, hQ118, l118, y118, z118⟩, st118⟩ := Jvm.LawKit.callS Xf hx (y := (⟨"java/lang/Math", "max", "(II)I"⟩ : MethodName)) hown (mvT hZ (hw _ (List.mem_of_getElem? (i := 21) rfl))) (mvT hZ (hw _ (List.mem_of_getElem? (i := 22) rfl))) (mvT hZ (hw _ (List.mem_of_getElem? (i := 23) rfl))) (mvT hZ (hw _ (List.mem_of_getElem? (i := 24) rfl))) (by decide) (backOf (W := 0) (rm1 l Z a0 hw [] (1 : Int32) (y &&& (2147483647 : Int32)) hf1 n0 Zf) hZ (hw _ (List.mem_of_getElem? (i := 24) rfl)) (hw _ (List.mem_of_getElem? (i := 23) rfl)) (by decide) (by decide)) (g := (mkF m 142 #[.val (.long cc), .second, .val (.int rate), .val (.int days), .val (.int y), .val (.int pp), .val (.int ss), .val (.ref b), .val (.long (9223372036854775807 : Int64)), .second, .unset, .unset, .unset, .unset, .unset, .unset, .unset, .unset, .unset, .unset, .unset, .unset, .unset, .unset, .unset, .unset, .unset, .unset, .unset, .unset, .unset, .unset] [(.int (y &&& (2147483647 : Int32))), (.int (1 : Int32))])) rfl (by rw [hml]; rfl) (argsL := [(.int (1 : Int32)), (.int (y &&& (2147483647 : Int32)))]) (rest := []) (lenOf pd_0 rfl) rfl (by show 2 * 0 + _ ≤ _; exact Nat.le_of_eq rfl) (hb hby at_142) (fun _ _ => ⟨rfl, ef, (by decide : 1 + 0 ≤ _), (by decide : 19 + 0 ≤ _)⟩)
  dsimp only [Pt.U, Pt.locs, Pt.cells, Pt.slots] at X118 l118 y118 z118 st118 hQ118
  subst l118 y118 z118
  obtain ⟨rfl, N118q, e118⟩ := hQ118
  have N118 := Fr.app Nf N118q
  obtain ⟨_, _, ⟨T119, L119, k119, n119⟩, -, X119, ⟨Lc119, hQ119, l119, y119, z119⟩, st119⟩ := Jvm.LawKit.callS X118 hx (y := (⟨"java/lang/Math", "abs", "(J)J"⟩ : MethodName)) hown (mvT hZ (hw _ (List.mem_of_getElem? (i := 25) rfl))) (mvT hZ (hw _ (List.mem_of_getElem? (i := 26) rfl))) (mvT hZ (hw _ (List.mem_of_getElem? (i := 23) rfl))) (mvT hZ (hw _ (List.mem_of_getElem? (i := 27) rfl))) (by decide) (backOf (W := 4) (rm2 l Z a0 hw [] (rdF rate days) hf1 n0 Zf) hZ (hw _ (List.mem_of_getElem? (i := 27) rfl)) (hw _ (List.mem_of_getElem? (i := 23) rfl)) (by decide) (by decide)) (g := (mkF m 363 #[.val (.long cc), .second, .val (.int rate), .val (.int days), .val (.int y), .val (.int pp), .val (.int ss), .val (.ref b), .val (.long (9223372036854775807 : Int64)), .second, .val (.int (ydF y)), .val (.int (pp % (24 : Int32))), .val (.int (ss % (24 : Int32))), .val (.int (tL pp ss)), .val (.long (rdF rate days)), .second, .val (.long (rdF rate days)), .second, .val (.long (divF (ydF y) (powF N))), .second, .val (.int (-(tL pp ss))), .unset, .unset, .unset, .unset, .unset, .unset, .unset, .unset, .unset, .unset, .unset] [(.long (rdF rate days)), (.long (9223372036854775807 : Int64)), (.long cc)])) rfl (by rw [hml]; rfl) (argsL := [(.long (rdF rate days))]) (rest := [(.long (9223372036854775807 : Int64)), (.long cc)]) (lenOf pd_1 rfl) rfl (by show 2 * 0 + _ ≤ _; exact Nat.le_of_eq rfl) (hb hby at_363) (fun _ _ => ⟨rfl, e118, (by decide : 1 + 0 ≤ _), (by decide : 19 + 0 ≤ _)⟩)
  dsimp only [Pt.U, Pt.locs, Pt.cells, Pt.slots] at X119 l119 y119 z119 st119 hQ119
  subst l119 y119 z119
  obtain ⟨rfl, N119q, e119⟩ := hQ119
  have N119 := Fr.app N118 N119q
  obtain ⟨_, _, ⟨T120, L120, k120, n120⟩, -, X120, ⟨Lc120, hQ120, l120, y120, z120⟩, st120⟩ := Jvm.LawKit.callS X119 hx (y := (⟨"java/lang/Math", "abs", "(J)J"⟩ : MethodName)) hown (mvT hZ (hw _ (List.mem_of_getElem? (i := 25) rfl))) (mvT hZ (hw _ (List.mem_of_getElem? (i := 26) rfl))) (mvT hZ (hw _ (List.mem_of_getElem? (i := 23) rfl))) (mvT hZ (hw _ (List.mem_of_getElem? (i := 27) rfl))) (by decide) (backOf (W := 0) (rm2 l Z a0 hw [] (((centF cc (rdF rate days)) * (rdF rate days)) % (divF (ydF y) (powF N))) hf1 n0 Zf) hZ (hw _ (List.mem_of_getElem? (i := 27) rfl)) (hw _ (List.mem_of_getElem? (i := 23) rfl)) (by decide) (by decide)) (g := (mkF m 389 #[.val (.long cc), .second, .val (.int rate), .val (.int days), .val (.int y), .val (.int pp), .val (.int ss), .val (.ref b), .val (.long (9223372036854775807 : Int64)), .second, .val (.int (ydF y)), .val (.int (pp % (24 : Int32))), .val (.int (ss % (24 : Int32))), .val (.int (tL pp ss)), .val (.long (rdF rate days)), .second, .val (.long (rdF rate days)), .second, .val (.long (divF (ydF y) (powF N))), .second, .val (.long (centF cc (rdF rate days))), .second, .val (.long ((centF cc (rdF rate days)) * (rdF rate days))), .second, .val (.long (((centF cc (rdF rate days)) * (rdF rate days)) / (divF (ydF y) (powF N)))), .second, .unset, .unset, .unset, .unset, .unset, .unset] [(.long (((centF cc (rdF rate days)) * (rdF rate days)) % (divF (ydF y) (powF N))))])) rfl (by rw [hml]; rfl) (argsL := [(.long (((centF cc (rdF rate days)) * (rdF rate days)) % (divF (ydF y) (powF N))))]) (rest := []) (lenOf pd_1 rfl) rfl (by show 2 * 0 + _ ≤ _; exact Nat.le_of_eq rfl) (hb hby at_389) (fun _ _ => ⟨rfl, e119, (by decide : 1 + 0 ≤ _), (by decide : 19 + 0 ≤ _)⟩)
  dsimp only [Pt.U, Pt.locs, Pt.cells, Pt.slots] at X120 l120 y120 z120 st120 hQ120
  subst l120 y120 z120
  obtain ⟨rfl, N120q, e120⟩ := hQ120
  have N120 := Fr.app N119 N120q
  obtain ⟨_, _, ⟨T121, L121, k121, n121⟩, -, X121, ⟨Lc121, hQ121, l121, y121, z121⟩, st121⟩ := Jvm.LawKit.callS X120 hx (y := (⟨"com/example/syndicata/syndicata/Accrual", "accruedUnits", "(JJIJII)J"⟩ : MethodName)) hown (mvT hZ (hw _ (List.mem_of_getElem? (i := 28) rfl))) (mvT hZ (hw _ (List.mem_of_getElem? (i := 29) rfl))) (mvT hZ (hw _ (List.mem_of_getElem? (i := 30) rfl))) (mvT hZ (hw _ (List.mem_of_getElem? (i := 31) rfl))) (by decide) (backOf (W := 0) (rm3_N1 l Z a0 hw [] (centF cc (rdF rate days)) (rate.toInt64) (ss % (24 : Int32)) (days.toInt64) (ydF y) (pp % (24 : Int32)) N hf1 n0 Zf hN hN1 fhc18 fhc37 fhc50 fhc67 fhc79 fhc90 fhnz118 fhnz125 fhc134 fhc143 fhnz162 fhnz171 fhc185 fhc212 fhc225) hZ (hw _ (List.mem_of_getElem? (i := 31) rfl)) (hw _ (List.mem_of_getElem? (i := 30) rfl)) (by decide) (by decide)) (g := (mkF m 444 #[.val (.long cc), .second, .val (.int rate), .val (.int days), .val (.int y), .val (.int pp), .val (.int ss), .val (.ref b), .val (.long (9223372036854775807 : Int64)), .second, .val (.int (ydF y)), .val (.int (pp % (24 : Int32))), .val (.int (ss % (24 : Int32))), .val (.int (tL pp ss)), .val (.long (rdF rate days)), .second, .val (.long (rdF rate days)), .second, .val (.long (divF (ydF y) (powF N))), .second, .val (.long (centF cc (rdF rate days))), .second, .val (.long ((centF cc (rdF rate days)) * (rdF rate days))), .second, .val (.long (((centF cc (rdF rate days)) * (rdF rate days)) / (divF (ydF y) (powF N)))), .second, .val (.long (absL (((centF cc (rdF rate days)) * (rdF rate days)) % (divF (ydF y) (powF N))))), .second, .val (.long (1 : Int64)), .second, .val (.long ((((centF cc (rdF rate days)) * (rdF rate days)) / (divF (ydF y) (powF N))) + (1 : Int64))), .second] [(.int (pp % (24 : Int32))), (.int (ydF y)), (.long (days.toInt64)), (.int (ss % (24 : Int32))), (.long (rate.toInt64)), (.long (centF cc (rdF rate days)))])) rfl (by rw [hml]; rfl) (argsL := [(.long (centF cc (rdF rate days))), (.long (rate.toInt64)), (.int (ss % (24 : Int32))), (.long (days.toInt64)), (.int (ydF y)), (.int (pp % (24 : Int32)))]) (rest := []) (lenOf pd_2 rfl) rfl (by show 2 * 0 + _ ≤ _; exact Nat.le_of_eq rfl) (hb hby at_444) (fun _ _ => ⟨rfl, e120, (by decide : 1 + 0 ≤ _), (by decide : 19 + 0 ≤ _)⟩)
  dsimp only [Pt.U, Pt.locs, Pt.cells, Pt.slots] at X121 l121 y121 z121 st121 hQ121
  subst l121 y121 z121
  obtain ⟨rfl, N121q, e121⟩ := hQ121
  have N121 := Fr.app N120 N121q
  obtain ⟨fs, hr, hrun, hended, hW, hsame⟩ := X121.leave (v := some (.int (1 : Int32))) (fun h => by rw [Bd.returns] at h; cases h)
  refine ⟨_, _, pre0 _ ?_, hrun, hended, _, _, rfl, ?_, ⟨_, rfl⟩, hW, hsame.mono (by decide) (by decide)⟩
  · show Steps p.tables e below (s₁.setTop (mkF m 0 #[.val (.long cc), .second, .val (.int rate), .val (.int days), .val (.int y), .val (.int pp), .val (.int ss), .unset, .unset, .unset, .unset, .unset, .unset, .unset, .unset, .unset, .unset, .unset, .unset, .unset, .unset, .unset, .unset, .unset, .unset, .unset, .unset, .unset, .unset, .unset, .unset, .unset] [])) _
    refine stf _ ?_
    show Steps p.tables e below (Tf.setTop (mkF m 131 #[.val (.long cc), .second, .val (.int rate), .val (.int days), .val (.int y), .val (.int pp), .val (.int ss), .val (.ref b), .unset, .unset, .unset, .unset, .unset, .unset, .unset, .unset, .unset, .unset, .unset, .unset, .unset, .unset, .unset, .unset, .unset, .unset, .unset, .unset, .unset, .unset, .unset, .unset] [])) _
    refine Xf.ldc2Long hx hown (mvT hZ (hw _ (List.mem_of_getElem? (i := 19) rfl))) (g := (mkF m 131 #[.val (.long cc), .second, .val (.int rate), .val (.int days), .val (.int y), .val (.int pp), .val (.int ss), .val (.ref b), .unset, .unset, .unset, .unset, .unset, .unset, .unset, .unset, .unset, .unset, .unset, .unset, .unset, .unset, .unset, .unset, .unset, .unset, .unset, .unset, .unset, .unset, .unset, .unset] [])) rfl (hb hby at_131) _ ?_
    refine XS.lstore Xf.here hx rfl (hb hby at_134) rfl (l' := #[.val (.long cc), .second, .val (.int rate), .val (.int days), .val (.int y), .val (.int pp), .val (.int ss), .val (.ref b), .val (.long (9223372036854775807 : Int64)), .second, .unset, .unset, .unset, .unset, .unset, .unset, .unset, .unset, .unset, .unset, .unset, .unset, .unset, .unset, .unset, .unset, .unset, .unset, .unset, .unset, .unset, .unset]) rfl ?_
    refine XS.iconst Xf.here hx rfl (hb hby at_136) ?_
    refine XS.iload Xf.here hx rfl (hb hby at_137) rfl ?_
    refine Xf.ldcInt hx hown (mvT hZ (hw _ (List.mem_of_getElem? (i := 20) rfl))) (g := (mkF m 139 #[.val (.long cc), .second, .val (.int rate), .val (.int days), .val (.int y), .val (.int pp), .val (.int ss), .val (.ref b), .val (.long (9223372036854775807 : Int64)), .second, .unset, .unset, .unset, .unset, .unset, .unset, .unset, .unset, .unset, .unset, .unset, .unset, .unset, .unset, .unset, .unset, .unset, .unset, .unset, .unset, .unset, .unset] [(.int y), (.int (1 : Int32))])) rfl (hb hby at_139) _ ?_
    refine XS.iand Xf.here hx rfl (hb hby at_141) rfl ?_
    show Steps p.tables e below (Tf.setTop (mkF m 142 #[.val (.long cc), .second, .val (.int rate), .val (.int days), .val (.int y), .val (.int pp), .val (.int ss), .val (.ref b), .val (.long (9223372036854775807 : Int64)), .second, .unset, .unset, .unset, .unset, .unset, .unset, .unset, .unset, .unset, .unset, .unset, .unset, .unset, .unset, .unset, .unset, .unset, .unset, .unset, .unset, .unset, .unset] [(.int (y &&& (2147483647 : Int32))), (.int (1 : Int32))])) _
    refine st118 _ ?_
    show Steps p.tables e below (T118.setTop (mkF m 145 #[.val (.long cc), .second, .val (.int rate), .val (.int days), .val (.int y), .val (.int pp), .val (.int ss), .val (.ref b), .val (.long (9223372036854775807 : Int64)), .second, .unset, .unset, .unset, .unset, .unset, .unset, .unset, .unset, .unset, .unset, .unset, .unset, .unset, .unset, .unset, .unset, .unset, .unset, .unset, .unset, .unset, .unset] [(.int (ydF y))])) _
    refine XS.istore X118.here hx rfl (hb hby at_145) rfl (l' := #[.val (.long cc), .second, .val (.int rate), .val (.int days), .val (.int y), .val (.int pp), .val (.int ss), .val (.ref b), .val (.long (9223372036854775807 : Int64)), .second, .val (.int (ydF y)), .unset, .unset, .unset, .unset, .unset, .unset, .unset, .unset, .unset, .unset, .unset, .unset, .unset, .unset, .unset, .unset, .unset, .unset, .unset, .unset, .unset]) rfl ?_
    refine XS.iload X118.here hx rfl (hb hby at_147) rfl ?_
    refine XS.bipush X118.here hx rfl (hb hby at_149) ?_
    refine gwIrem X118.here hx rfl (hb hby at_151) rfl (by decide : ¬ ((24 : Int32) = (0 : Int32))) ?_
    refine XS.istore X118.here hx rfl (hb hby at_152) rfl (l' := #[.val (.long cc), .second, .val (.int rate), .val (.int days), .val (.int y), .val (.int pp), .val (.int ss), .val (.ref b), .val (.long (9223372036854775807 : Int64)), .second, .val (.int (ydF y)), .val (.int (pp % (24 : Int32))), .unset, .unset, .unset, .unset, .unset, .unset, .unset, .unset, .unset, .unset, .unset, .unset, .unset, .unset, .unset, .unset, .unset, .unset, .unset, .unset]) rfl ?_
    refine XS.iload X118.here hx rfl (hb hby at_154) rfl ?_
    refine XS.bipush X118.here hx rfl (hb hby at_156) ?_
    refine gwIrem X118.here hx rfl (hb hby at_158) rfl (by decide : ¬ ((24 : Int32) = (0 : Int32))) ?_
    show Steps p.tables e below (T118.setTop (mkF m 159 #[.val (.long cc), .second, .val (.int rate), .val (.int days), .val (.int y), .val (.int pp), .val (.int ss), .val (.ref b), .val (.long (9223372036854775807 : Int64)), .second, .val (.int (ydF y)), .val (.int (pp % (24 : Int32))), .unset, .unset, .unset, .unset, .unset, .unset, .unset, .unset, .unset, .unset, .unset, .unset, .unset, .unset, .unset, .unset, .unset, .unset, .unset, .unset] [(.int (ss % (24 : Int32)))])) _
    refine XS.istore X118.here hx rfl (hb hby at_159) rfl (l' := #[.val (.long cc), .second, .val (.int rate), .val (.int days), .val (.int y), .val (.int pp), .val (.int ss), .val (.ref b), .val (.long (9223372036854775807 : Int64)), .second, .val (.int (ydF y)), .val (.int (pp % (24 : Int32))), .val (.int (ss % (24 : Int32))), .unset, .unset, .unset, .unset, .unset, .unset, .unset, .unset, .unset, .unset, .unset, .unset, .unset, .unset, .unset, .unset, .unset, .unset, .unset]) rfl ?_
    refine XS.iload X118.here hx rfl (hb hby at_161) rfl ?_
    refine XS.iconst X118.here hx rfl (hb hby at_163) ?_
    refine XS.isub X118.here hx rfl (hb hby at_164) rfl ?_
    refine XS.iload X118.here hx rfl (hb hby at_165) rfl ?_
    refine XS.isub X118.here hx rfl (hb hby at_167) rfl ?_
    show Steps p.tables e below (T118.setTop (mkF m 168 #[.val (.long cc), .second, .val (.int rate), .val (.int days), .val (.int y), .val (.int pp), .val (.int ss), .val (.ref b), .val (.long (9223372036854775807 : Int64)), .second, .val (.int (ydF y)), .val (.int (pp % (24 : Int32))), .val (.int (ss % (24 : Int32))), .unset, .unset, .unset, .unset, .unset, .unset, .unset, .unset, .unset, .unset, .unset, .unset, .unset, .unset, .unset, .unset, .unset, .unset, .unset] [(.int (tL pp ss))])) _
    refine XS.istore X118.here hx rfl (hb hby at_168) rfl (l' := #[.val (.long cc), .second, .val (.int rate), .val (.int days), .val (.int y), .val (.int pp), .val (.int ss), .val (.ref b), .val (.long (9223372036854775807 : Int64)), .second, .val (.int (ydF y)), .val (.int (pp % (24 : Int32))), .val (.int (ss % (24 : Int32))), .val (.int (tL pp ss)), .unset, .unset, .unset, .unset, .unset, .unset, .unset, .unset, .unset, .unset, .unset, .unset, .unset, .unset, .unset, .unset, .unset, .unset]) rfl ?_
    refine XS.iload X118.here hx rfl (hb hby at_170) rfl ?_
    refine XS.bipush X118.here hx rfl (hb hby at_172) ?_
    refine XS.icmpNo X118.here hx rfl (hb hby at_174) rfl (flt hc174).2.2.1 ?_
    refine XS.iload X118.here hx rfl (hb hby at_177) rfl ?_
    refine XS.bipush X118.here hx rfl (hb hby at_179) ?_
    refine XS.icmpYes X118.here hx rfl (pc0 := 181) (pc' := 211) rfl (hb hby at_181) rfl (flt hc181).2.1 (by decide) (by decide) ?_
    refine XS.iloadN X118.here hx rfl (hb hby at_211) rfl ?_
    show Steps p.tables e below (T118.setTop (mkF m 212 #[.val (.long cc), .second, .val (.int rate), .val (.int days), .val (.int y), .val (.int pp), .val (.int ss), .val (.ref b), .val (.long (9223372036854775807 : Int64)), .second, .val (.int (ydF y)), .val (.int (pp % (24 : Int32))), .val (.int (ss % (24 : Int32))), .val (.int (tL pp ss)), .unset, .unset, .unset, .unset, .unset, .unset, .unset, .unset, .unset, .unset, .unset, .unset, .unset, .unset, .unset, .unset, .unset, .unset] [(.int rate)])) _
    refine XS.i2l X118.here hx rfl (hb hby at_212) rfl ?_
    refine XS.iloadN X118.here hx rfl (hb hby at_213) rfl ?_
    refine XS.i2l X118.here hx rfl (hb hby at_214) rfl ?_
    refine XS.lmul X118.here hx rfl (hb hby at_215) rfl ?_
    show Steps p.tables e below (T118.setTop (mkF m 216 #[.val (.long cc), .second, .val (.int rate), .val (.int days), .val (.int y), .val (.int pp), .val (.int ss), .val (.ref b), .val (.long (9223372036854775807 : Int64)), .second, .val (.int (ydF y)), .val (.int (pp % (24 : Int32))), .val (.int (ss % (24 : Int32))), .val (.int (tL pp ss)), .unset, .unset, .unset, .unset, .unset, .unset, .unset, .unset, .unset, .unset, .unset, .unset, .unset, .unset, .unset, .unset, .unset, .unset] [(.long (rdF rate days))])) _
    refine XS.lstore X118.here hx rfl (hb hby at_216) rfl (l' := #[.val (.long cc), .second, .val (.int rate), .val (.int days), .val (.int y), .val (.int pp), .val (.int ss), .val (.ref b), .val (.long (9223372036854775807 : Int64)), .second, .val (.int (ydF y)), .val (.int (pp % (24 : Int32))), .val (.int (ss % (24 : Int32))), .val (.int (tL pp ss)), .val (.long (rdF rate days)), .second, .unset, .unset, .unset, .unset, .unset, .unset, .unset, .unset, .unset, .unset, .unset, .unset, .unset, .unset, .unset, .unset]) rfl ?_
    refine XS.iload X118.here hx rfl (hb hby at_218) rfl ?_
    refine XS.ifYes X118.here hx rfl (pc0 := 220) (pc' := 285) rfl (hb hby at_220) rfl ((if0 _ _).trans (flt hc220).2.2.2) (by decide) (by decide) ?_
    refine XS.iload X118.here hx rfl (hb hby at_285) rfl ?_
    refine XS.ineg X118.here hx rfl (hb hby at_287) rfl ?_
    refine XS.istore X118.here hx rfl (hb hby at_288) rfl (l' := #[.val (.long cc), .second, .val (.int rate), .val (.int days), .val (.int y), .val (.int pp), .val (.int ss), .val (.ref b), .val (.long (9223372036854775807 : Int64)), .second, .val (.int (ydF y)), .val (.int (pp % (24 : Int32))), .val (.int (ss % (24 : Int32))), .val (.int (tL pp ss)), .val (.long (rdF rate days)), .second, .unset, .unset, .unset, .unset, .val (.int (-(tL pp ss))), .unset, .unset, .unset, .unset, .unset, .unset, .unset, .unset, .unset, .unset, .unset]) rfl ?_
    refine XS.iload X118.here hx rfl (hb hby at_290) rfl ?_
    refine XS.i2l X118.here hx rfl (hb hby at_292) rfl ?_
    show Steps p.tables e below (T118.setTop (mkF m 293 #[.val (.long cc), .second, .val (.int rate), .val (.int days), .val (.int y), .val (.int pp), .val (.int ss), .val (.ref b), .val (.long (9223372036854775807 : Int64)), .second, .val (.int (ydF y)), .val (.int (pp % (24 : Int32))), .val (.int (ss % (24 : Int32))), .val (.int (tL pp ss)), .val (.long (rdF rate days)), .second, .unset, .unset, .unset, .unset, .val (.int (-(tL pp ss))), .unset, .unset, .unset, .unset, .unset, .unset, .unset, .unset, .unset, .unset, .unset] [(.long ((ydF y).toInt64))])) _
    refine XS.lload X118.here hx rfl (hb hby at_293) rfl ?_
    refine XS.aload X118.here hx rfl (hb hby at_295) rfl rfl ?_
    refine XS.iload X118.here hx rfl (hb hby at_297) rfl ?_
    show Steps p.tables e below (T118.setTop (mkF m 299 #[.val (.long cc), .second, .val (.int rate), .val (.int days), .val (.int y), .val (.int pp), .val (.int ss), .val (.ref b), .val (.long (9223372036854775807 : Int64)), .second, .val (.int (ydF y)), .val (.int (pp % (24 : Int32))), .val (.int (ss % (24 : Int32))), .val (.int (tL pp ss)), .val (.long (rdF rate days)), .second, .unset, .unset, .unset, .unset, .val (.int (-(tL pp ss))), .unset, .unset, .unset, .unset, .unset, .unset, .unset, .unset, .unset, .unset, .unset] [(.int (-(tL pp ss))), (.ref b), (.long (9223372036854775807 : Int64)), (.long ((ydF y).toInt64))])) _
    refine X118.laload hx (j := (-(tL pp ss))) (v := (.long (powF N))) (by rw [e118]; exact Ar.1) (State.isArrayOf_alike hZ.alike Ar.2.1) Ar.2.2 hin hat (g := (mkF m 299 #[.val (.long cc), .second, .val (.int rate), .val (.int days), .val (.int y), .val (.int pp), .val (.int ss), .val (.ref b), .val (.long (9223372036854775807 : Int64)), .second, .val (.int (ydF y)), .val (.int (pp % (24 : Int32))), .val (.int (ss % (24 : Int32))), .val (.int (tL pp ss)), .val (.long (rdF rate days)), .second, .unset, .unset, .unset, .unset, .val (.int (-(tL pp ss))), .unset, .unset, .unset, .unset, .unset, .unset, .unset, .unset, .unset, .unset, .unset] [(.int (-(tL pp ss))), (.ref b), (.long (9223372036854775807 : Int64)), (.long ((ydF y).toInt64))])) rfl rfl (hb hby at_299) _ ?_
    refine XS.ldiv X118.here hx rfl (hb hby at_300) rfl hnz300 ?_
    refine XS.lcmp X118.here hx rfl (hb hby at_301) rfl ?_
    refine XS.ifYes X118.here hx rfl (pc0 := 302) (pc' := 332) rfl (hb hby at_302) rfl ((if0 _ _).trans (flt hc302).2.2.2) (by decide) (by decide) ?_
    refine XS.lload X118.here hx rfl (hb hby at_332) rfl ?_
    refine XS.lstore X118.here hx rfl (hb hby at_334) rfl (l' := #[.val (.long cc), .second, .val (.int rate), .val (.int days), .val (.int y), .val (.int pp), .val (.int ss), .val (.ref b), .val (.long (9223372036854775807 : Int64)), .second, .val (.int (ydF y)), .val (.int (pp % (24 : Int32))), .val (.int (ss % (24 : Int32))), .val (.int (tL pp ss)), .val (.long (rdF rate days)), .second, .val (.long (rdF rate days)), .second, .unset, .unset, .val (.int (-(tL pp ss))), .unset, .unset, .unset, .unset, .unset, .unset, .unset, .unset, .unset, .unset, .unset]) rfl ?_
    refine XS.iload X118.here hx rfl (hb hby at_336) rfl ?_
    refine XS.i2l X118.here hx rfl (hb hby at_338) rfl ?_
    show Steps p.tables e below (T118.setTop (mkF m 339 #[.val (.long cc), .second, .val (.int rate), .val (.int days), .val (.int y), .val (.int pp), .val (.int ss), .val (.ref b), .val (.long (9223372036854775807 : Int64)), .second, .val (.int (ydF y)), .val (.int (pp % (24 : Int32))), .val (.int (ss % (24 : Int32))), .val (.int (tL pp ss)), .val (.long (rdF rate days)), .second, .val (.long (rdF rate days)), .second, .unset, .unset, .val (.int (-(tL pp ss))), .unset, .unset, .unset, .unset, .unset, .unset, .unset, .unset, .unset, .unset, .unset] [(.long ((ydF y).toInt64))])) _
    refine XS.aload X118.here hx rfl (hb hby at_339) rfl rfl ?_
    refine XS.iload X118.here hx rfl (hb hby at_341) rfl ?_
    show Steps p.tables e below (T118.setTop (mkF m 343 #[.val (.long cc), .second, .val (.int rate), .val (.int days), .val (.int y), .val (.int pp), .val (.int ss), .val (.ref b), .val (.long (9223372036854775807 : Int64)), .second, .val (.int (ydF y)), .val (.int (pp % (24 : Int32))), .val (.int (ss % (24 : Int32))), .val (.int (tL pp ss)), .val (.long (rdF rate days)), .second, .val (.long (rdF rate days)), .second, .unset, .unset, .val (.int (-(tL pp ss))), .unset, .unset, .unset, .unset, .unset, .unset, .unset, .unset, .unset, .unset, .unset] [(.int (-(tL pp ss))), (.ref b), (.long ((ydF y).toInt64))])) _
    refine X118.laload hx (j := (-(tL pp ss))) (v := (.long (powF N))) (by rw [e118]; exact Ar.1) (State.isArrayOf_alike hZ.alike Ar.2.1) Ar.2.2 hin hat (g := (mkF m 343 #[.val (.long cc), .second, .val (.int rate), .val (.int days), .val (.int y), .val (.int pp), .val (.int ss), .val (.ref b), .val (.long (9223372036854775807 : Int64)), .second, .val (.int (ydF y)), .val (.int (pp % (24 : Int32))), .val (.int (ss % (24 : Int32))), .val (.int (tL pp ss)), .val (.long (rdF rate days)), .second, .val (.long (rdF rate days)), .second, .unset, .unset, .val (.int (-(tL pp ss))), .unset, .unset, .unset, .unset, .unset, .unset, .unset, .unset, .unset, .unset, .unset] [(.int (-(tL pp ss))), (.ref b), (.long ((ydF y).toInt64))])) rfl rfl (hb hby at_343) _ ?_
    refine XS.lmul X118.here hx rfl (hb hby at_344) rfl ?_
    show Steps p.tables e below (T118.setTop (mkF m 345 #[.val (.long cc), .second, .val (.int rate), .val (.int days), .val (.int y), .val (.int pp), .val (.int ss), .val (.ref b), .val (.long (9223372036854775807 : Int64)), .second, .val (.int (ydF y)), .val (.int (pp % (24 : Int32))), .val (.int (ss % (24 : Int32))), .val (.int (tL pp ss)), .val (.long (rdF rate days)), .second, .val (.long (rdF rate days)), .second, .unset, .unset, .val (.int (-(tL pp ss))), .unset, .unset, .unset, .unset, .unset, .unset, .unset, .unset, .unset, .unset, .unset] [(.long (divF (ydF y) (powF N)))])) _
    refine XS.lstore X118.here hx rfl (hb hby at_345) rfl (l' := #[.val (.long cc), .second, .val (.int rate), .val (.int days), .val (.int y), .val (.int pp), .val (.int ss), .val (.ref b), .val (.long (9223372036854775807 : Int64)), .second, .val (.int (ydF y)), .val (.int (pp % (24 : Int32))), .val (.int (ss % (24 : Int32))), .val (.int (tL pp ss)), .val (.long (rdF rate days)), .second, .val (.long (rdF rate days)), .second, .val (.long (divF (ydF y) (powF N))), .second, .val (.int (-(tL pp ss))), .unset, .unset, .unset, .unset, .unset, .unset, .unset, .unset, .unset, .unset, .unset]) rfl ?_
    refine XS.lload X118.here hx rfl (hb hby at_347) rfl ?_
    refine XS.lconst X118.here hx rfl (hb hby at_349) ?_
    refine XS.lcmp X118.here hx rfl (hb hby at_350) rfl ?_
    refine XS.ifYes X118.here hx rfl (pc0 := 351) (pc' := 358) rfl (hb hby at_351) rfl ((if0 _ _).trans (feq hc351).2) (by decide) (by decide) ?_
    refine XS.lloadN X118.here hx rfl (hb hby at_358) rfl ?_
    refine XS.lload X118.here hx rfl (hb hby at_359) rfl ?_
    refine XS.lload X118.here hx rfl (hb hby at_361) rfl ?_
    show Steps p.tables e below (T118.setTop (mkF m 363 #[.val (.long cc), .second, .val (.int rate), .val (.int days), .val (.int y), .val (.int pp), .val (.int ss), .val (.ref b), .val (.long (9223372036854775807 : Int64)), .second, .val (.int (ydF y)), .val (.int (pp % (24 : Int32))), .val (.int (ss % (24 : Int32))), .val (.int (tL pp ss)), .val (.long (rdF rate days)), .second, .val (.long (rdF rate days)), .second, .val (.long (divF (ydF y) (powF N))), .second, .val (.int (-(tL pp ss))), .unset, .unset, .unset, .unset, .unset, .unset, .unset, .unset, .unset, .unset, .unset] [(.long (rdF rate days)), (.long (9223372036854775807 : Int64)), (.long cc)])) _
    refine st119 _ ?_
    refine XS.ldiv X119.here hx rfl (hb hby at_366) rfl hnz366 ?_
    refine gwLrem X119.here hx rfl (hb hby at_367) rfl hnz367 ?_
    show Steps p.tables e below (T119.setTop (mkF m 368 #[.val (.long cc), .second, .val (.int rate), .val (.int days), .val (.int y), .val (.int pp), .val (.int ss), .val (.ref b), .val (.long (9223372036854775807 : Int64)), .second, .val (.int (ydF y)), .val (.int (pp % (24 : Int32))), .val (.int (ss % (24 : Int32))), .val (.int (tL pp ss)), .val (.long (rdF rate days)), .second, .val (.long (rdF rate days)), .second, .val (.long (divF (ydF y) (powF N))), .second, .val (.int (-(tL pp ss))), .unset, .unset, .unset, .unset, .unset, .unset, .unset, .unset, .unset, .unset, .unset] [(.long (centF cc (rdF rate days)))])) _
    refine XS.lstore X119.here hx rfl (hb hby at_368) rfl (l' := #[.val (.long cc), .second, .val (.int rate), .val (.int days), .val (.int y), .val (.int pp), .val (.int ss), .val (.ref b), .val (.long (9223372036854775807 : Int64)), .second, .val (.int (ydF y)), .val (.int (pp % (24 : Int32))), .val (.int (ss % (24 : Int32))), .val (.int (tL pp ss)), .val (.long (rdF rate days)), .second, .val (.long (rdF rate days)), .second, .val (.long (divF (ydF y) (powF N))), .second, .val (.long (centF cc (rdF rate days))), .second, .unset, .unset, .unset, .unset, .unset, .unset, .unset, .unset, .unset, .unset]) rfl ?_
    refine XS.lload X119.here hx rfl (hb hby at_370) rfl ?_
    refine XS.lload X119.here hx rfl (hb hby at_372) rfl ?_
    refine XS.lmul X119.here hx rfl (hb hby at_374) rfl ?_
    refine XS.lstore X119.here hx rfl (hb hby at_375) rfl (l' := #[.val (.long cc), .second, .val (.int rate), .val (.int days), .val (.int y), .val (.int pp), .val (.int ss), .val (.ref b), .val (.long (9223372036854775807 : Int64)), .second, .val (.int (ydF y)), .val (.int (pp % (24 : Int32))), .val (.int (ss % (24 : Int32))), .val (.int (tL pp ss)), .val (.long (rdF rate days)), .second, .val (.long (rdF rate days)), .second, .val (.long (divF (ydF y) (powF N))), .second, .val (.long (centF cc (rdF rate days))), .second, .val (.long ((centF cc (rdF rate days)) * (rdF rate days))), .second, .unset, .unset, .unset, .unset, .unset, .unset, .unset, .unset]) rfl ?_
    refine XS.lload X119.here hx rfl (hb hby at_377) rfl ?_
    refine XS.lload X119.here hx rfl (hb hby at_379) rfl ?_
    refine XS.ldiv X119.here hx rfl (hb hby at_381) rfl hnz381 ?_
    show Steps p.tables e below (T119.setTop (mkF m 382 #[.val (.long cc), .second, .val (.int rate), .val (.int days), .val (.int y), .val (.int pp), .val (.int ss), .val (.ref b), .val (.long (9223372036854775807 : Int64)), .second, .val (.int (ydF y)), .val (.int (pp % (24 : Int32))), .val (.int (ss % (24 : Int32))), .val (.int (tL pp ss)), .val (.long (rdF rate days)), .second, .val (.long (rdF rate days)), .second, .val (.long (divF (ydF y) (powF N))), .second, .val (.long (centF cc (rdF rate days))), .second, .val (.long ((centF cc (rdF rate days)) * (rdF rate days))), .second, .unset, .unset, .unset, .unset, .unset, .unset, .unset, .unset] [(.long (((centF cc (rdF rate days)) * (rdF rate days)) / (divF (ydF y) (powF N))))])) _
    refine XS.lstore X119.here hx rfl (hb hby at_382) rfl (l' := #[.val (.long cc), .second, .val (.int rate), .val (.int days), .val (.int y), .val (.int pp), .val (.int ss), .val (.ref b), .val (.long (9223372036854775807 : Int64)), .second, .val (.int (ydF y)), .val (.int (pp % (24 : Int32))), .val (.int (ss % (24 : Int32))), .val (.int (tL pp ss)), .val (.long (rdF rate days)), .second, .val (.long (rdF rate days)), .second, .val (.long (divF (ydF y) (powF N))), .second, .val (.long (centF cc (rdF rate days))), .second, .val (.long ((centF cc (rdF rate days)) * (rdF rate days))), .second, .val (.long (((centF cc (rdF rate days)) * (rdF rate days)) / (divF (ydF y) (powF N)))), .second, .unset, .unset, .unset, .unset, .unset, .unset]) rfl ?_
    refine XS.lload X119.here hx rfl (hb hby at_384) rfl ?_
    refine XS.lload X119.here hx rfl (hb hby at_386) rfl ?_
    refine gwLrem X119.here hx rfl (hb hby at_388) rfl hnz388 ?_
    show Steps p.tables e below (T119.setTop (mkF m 389 #[.val (.long cc), .second, .val (.int rate), .val (.int days), .val (.int y), .val (.int pp), .val (.int ss), .val (.ref b), .val (.long (9223372036854775807 : Int64)), .second, .val (.int (ydF y)), .val (.int (pp % (24 : Int32))), .val (.int (ss % (24 : Int32))), .val (.int (tL pp ss)), .val (.long (rdF rate days)), .second, .val (.long (rdF rate days)), .second, .val (.long (divF (ydF y) (powF N))), .second, .val (.long (centF cc (rdF rate days))), .second, .val (.long ((centF cc (rdF rate days)) * (rdF rate days))), .second, .val (.long (((centF cc (rdF rate days)) * (rdF rate days)) / (divF (ydF y) (powF N)))), .second, .unset, .unset, .unset, .unset, .unset, .unset] [(.long (((centF cc (rdF rate days)) * (rdF rate days)) % (divF (ydF y) (powF N))))])) _
    refine st120 _ ?_
    refine XS.lstore X120.here hx rfl (hb hby at_392) rfl (l' := #[.val (.long cc), .second, .val (.int rate), .val (.int days), .val (.int y), .val (.int pp), .val (.int ss), .val (.ref b), .val (.long (9223372036854775807 : Int64)), .second, .val (.int (ydF y)), .val (.int (pp % (24 : Int32))), .val (.int (ss % (24 : Int32))), .val (.int (tL pp ss)), .val (.long (rdF rate days)), .second, .val (.long (rdF rate days)), .second, .val (.long (divF (ydF y) (powF N))), .second, .val (.long (centF cc (rdF rate days))), .second, .val (.long ((centF cc (rdF rate days)) * (rdF rate days))), .second, .val (.long (((centF cc (rdF rate days)) * (rdF rate days)) / (divF (ydF y) (powF N)))), .second, .val (.long (absL (((centF cc (rdF rate days)) * (rdF rate days)) % (divF (ydF y) (powF N))))), .second, .unset, .unset, .unset, .unset]) rfl ?_
    refine XS.lload X120.here hx rfl (hb hby at_394) rfl ?_
    refine XS.lload X120.here hx rfl (hb hby at_396) rfl ?_
    refine XS.lload X120.here hx rfl (hb hby at_398) rfl ?_
    refine XS.lsub X120.here hx rfl (hb hby at_400) rfl ?_
    refine XS.lcmp X120.here hx rfl (hb hby at_401) rfl ?_
    refine XS.ifNo X120.here hx rfl (hb hby at_402) rfl ((if0 _ _).trans (flt hc402).1) ?_
    show Steps p.tables e below (T120.setTop (mkF m 405 #[.val (.long cc), .second, .val (.int rate), .val (.int days), .val (.int y), .val (.int pp), .val (.int ss), .val (.ref b), .val (.long (9223372036854775807 : Int64)), .second, .val (.int (ydF y)), .val (.int (pp % (24 : Int32))), .val (.int (ss % (24 : Int32))), .val (.int (tL pp ss)), .val (.long (rdF rate days)), .second, .val (.long (rdF rate days)), .second, .val (.long (divF (ydF y) (powF N))), .second, .val (.long (centF cc (rdF rate days))), .second, .val (.long ((centF cc (rdF rate days)) * (rdF rate days))), .second, .val (.long (((centF cc (rdF rate days)) * (rdF rate days)) / (divF (ydF y) (powF N)))), .second, .val (.long (absL (((centF cc (rdF rate days)) * (rdF rate days)) % (divF (ydF y) (powF N))))), .second, .unset, .unset, .unset, .unset] [])) _
    refine XS.lload X120.here hx rfl (hb hby at_405) rfl ?_
    refine XS.lconst X120.here hx rfl (hb hby at_407) ?_
    refine XS.lcmp X120.here hx rfl (hb hby at_408) rfl ?_
    refine XS.ifNo X120.here hx rfl (hb hby at_409) rfl ((if0 _ _).trans (tlt hc409).2.2.2) ?_
    refine XS.lconst X120.here hx rfl (hb hby at_412) ?_
    refine XS.goto X120.here hx rfl (pc0 := 413) (pc' := 423) rfl (hb hby at_413) (by decide) (by decide) ?_
    refine XS.lstore X120.here hx rfl (hb hby at_423) rfl (l' := #[.val (.long cc), .second, .val (.int rate), .val (.int days), .val (.int y), .val (.int pp), .val (.int ss), .val (.ref b), .val (.long (9223372036854775807 : Int64)), .second, .val (.int (ydF y)), .val (.int (pp % (24 : Int32))), .val (.int (ss % (24 : Int32))), .val (.int (tL pp ss)), .val (.long (rdF rate days)), .second, .val (.long (rdF rate days)), .second, .val (.long (divF (ydF y) (powF N))), .second, .val (.long (centF cc (rdF rate days))), .second, .val (.long ((centF cc (rdF rate days)) * (rdF rate days))), .second, .val (.long (((centF cc (rdF rate days)) * (rdF rate days)) / (divF (ydF y) (powF N)))), .second, .val (.long (absL (((centF cc (rdF rate days)) * (rdF rate days)) % (divF (ydF y) (powF N))))), .second, .val (.long (1 : Int64)), .second, .unset, .unset]) rfl ?_
    refine XS.lload X120.here hx rfl (hb hby at_425) rfl ?_
    show Steps p.tables e below (T120.setTop (mkF m 427 #[.val (.long cc), .second, .val (.int rate), .val (.int days), .val (.int y), .val (.int pp), .val (.int ss), .val (.ref b), .val (.long (9223372036854775807 : Int64)), .second, .val (.int (ydF y)), .val (.int (pp % (24 : Int32))), .val (.int (ss % (24 : Int32))), .val (.int (tL pp ss)), .val (.long (rdF rate days)), .second, .val (.long (rdF rate days)), .second, .val (.long (divF (ydF y) (powF N))), .second, .val (.long (centF cc (rdF rate days))), .second, .val (.long ((centF cc (rdF rate days)) * (rdF rate days))), .second, .val (.long (((centF cc (rdF rate days)) * (rdF rate days)) / (divF (ydF y) (powF N)))), .second, .val (.long (absL (((centF cc (rdF rate days)) * (rdF rate days)) % (divF (ydF y) (powF N))))), .second, .val (.long (1 : Int64)), .second, .unset, .unset] [(.long (((centF cc (rdF rate days)) * (rdF rate days)) / (divF (ydF y) (powF N))))])) _
    refine XS.lload X120.here hx rfl (hb hby at_427) rfl ?_
    refine XS.ladd X120.here hx rfl (hb hby at_429) rfl ?_
    refine XS.lstore X120.here hx rfl (hb hby at_430) rfl (l' := #[.val (.long cc), .second, .val (.int rate), .val (.int days), .val (.int y), .val (.int pp), .val (.int ss), .val (.ref b), .val (.long (9223372036854775807 : Int64)), .second, .val (.int (ydF y)), .val (.int (pp % (24 : Int32))), .val (.int (ss % (24 : Int32))), .val (.int (tL pp ss)), .val (.long (rdF rate days)), .second, .val (.long (rdF rate days)), .second, .val (.long (divF (ydF y) (powF N))), .second, .val (.long (centF cc (rdF rate days))), .second, .val (.long ((centF cc (rdF rate days)) * (rdF rate days))), .second, .val (.long (((centF cc (rdF rate days)) * (rdF rate days)) / (divF (ydF y) (powF N)))), .second, .val (.long (absL (((centF cc (rdF rate days)) * (rdF rate days)) % (divF (ydF y) (powF N))))), .second, .val (.long (1 : Int64)), .second, .val (.long ((((centF cc (rdF rate days)) * (rdF rate days)) / (divF (ydF y) (powF N))) + (1 : Int64))), .second]) rfl ?_
    refine XS.lload X120.here hx rfl (hb hby at_432) rfl ?_
    refine XS.iloadN X120.here hx rfl (hb hby at_434) rfl ?_
    refine XS.i2l X120.here hx rfl (hb hby at_435) rfl ?_
    refine XS.iload X120.here hx rfl (hb hby at_436) rfl ?_
    refine XS.iloadN X120.here hx rfl (hb hby at_438) rfl ?_
    show Steps p.tables e below (T120.setTop (mkF m 439 #[.val (.long cc), .second, .val (.int rate), .val (.int days), .val (.int y), .val (.int pp), .val (.int ss), .val (.ref b), .val (.long (9223372036854775807 : Int64)), .second, .val (.int (ydF y)), .val (.int (pp % (24 : Int32))), .val (.int (ss % (24 : Int32))), .val (.int (tL pp ss)), .val (.long (rdF rate days)), .second, .val (.long (rdF rate days)), .second, .val (.long (divF (ydF y) (powF N))), .second, .val (.long (centF cc (rdF rate days))), .second, .val (.long ((centF cc (rdF rate days)) * (rdF rate days))), .second, .val (.long (((centF cc (rdF rate days)) * (rdF rate days)) / (divF (ydF y) (powF N)))), .second, .val (.long (absL (((centF cc (rdF rate days)) * (rdF rate days)) % (divF (ydF y) (powF N))))), .second, .val (.long (1 : Int64)), .second, .val (.long ((((centF cc (rdF rate days)) * (rdF rate days)) / (divF (ydF y) (powF N))) + (1 : Int64))), .second] [(.int days), (.int (ss % (24 : Int32))), (.long (rate.toInt64)), (.long (centF cc (rdF rate days)))])) _
    refine XS.i2l X120.here hx rfl (hb hby at_439) rfl ?_
    refine XS.iload X120.here hx rfl (hb hby at_440) rfl ?_
    refine XS.iload X120.here hx rfl (hb hby at_442) rfl ?_
    show Steps p.tables e below (T120.setTop (mkF m 444 #[.val (.long cc), .second, .val (.int rate), .val (.int days), .val (.int y), .val (.int pp), .val (.int ss), .val (.ref b), .val (.long (9223372036854775807 : Int64)), .second, .val (.int (ydF y)), .val (.int (pp % (24 : Int32))), .val (.int (ss % (24 : Int32))), .val (.int (tL pp ss)), .val (.long (rdF rate days)), .second, .val (.long (rdF rate days)), .second, .val (.long (divF (ydF y) (powF N))), .second, .val (.long (centF cc (rdF rate days))), .second, .val (.long ((centF cc (rdF rate days)) * (rdF rate days))), .second, .val (.long (((centF cc (rdF rate days)) * (rdF rate days)) / (divF (ydF y) (powF N)))), .second, .val (.long (absL (((centF cc (rdF rate days)) * (rdF rate days)) % (divF (ydF y) (powF N))))), .second, .val (.long (1 : Int64)), .second, .val (.long ((((centF cc (rdF rate days)) * (rdF rate days)) / (divF (ydF y) (powF N))) + (1 : Int64))), .second] [(.int (pp % (24 : Int32))), (.int (ydF y)), (.long (days.toInt64)), (.int (ss % (24 : Int32))), (.long (rate.toInt64)), (.long (centF cc (rdF rate days)))])) _
    refine st121 _ ?_
    refine XS.lload X121.here hx rfl (hb hby at_447) rfl ?_
    refine XS.lcmp X121.here hx rfl (hb hby at_449) rfl ?_
    refine XS.ifNo X121.here hx rfl (hb hby at_450) rfl ((if0 _ _).trans (teq hc450).2) ?_
    refine XS.iconst X121.here hx rfl (hb hby at_453) ?_
    refine XS.goto X121.here hx rfl (pc0 := 454) (pc' := 458) rfl (hb hby at_454) (by decide) (by decide) ?_
    show Steps p.tables e below (T121.setTop (mkF m 458 #[.val (.long cc), .second, .val (.int rate), .val (.int days), .val (.int y), .val (.int pp), .val (.int ss), .val (.ref b), .val (.long (9223372036854775807 : Int64)), .second, .val (.int (ydF y)), .val (.int (pp % (24 : Int32))), .val (.int (ss % (24 : Int32))), .val (.int (tL pp ss)), .val (.long (rdF rate days)), .second, .val (.long (rdF rate days)), .second, .val (.long (divF (ydF y) (powF N))), .second, .val (.long (centF cc (rdF rate days))), .second, .val (.long ((centF cc (rdF rate days)) * (rdF rate days))), .second, .val (.long (((centF cc (rdF rate days)) * (rdF rate days)) / (divF (ydF y) (powF N)))), .second, .val (.long (absL (((centF cc (rdF rate days)) * (rdF rate days)) % (divF (ydF y) (powF N))))), .second, .val (.long (1 : Int64)), .second, .val (.long ((((centF cc (rdF rate days)) * (rdF rate days)) / (divF (ydF y) (powF N))) + (1 : Int64))), .second] [(.int (1 : Int32))])) _
    exact retN X121 hx (t := .boolean) Bd.returns (by simp) (hb hby at_458) hr
  · show Q0  h0 n0 _ T121.heap _
    exact ⟨rfl, N121⟩
set_option maxRecDepth 65536 in
set_option maxHeartbeats 40000000 in
theorem rm0_N2 (l : Launch) (Z : State) (a0 : Array Value) (hw : ∀ d ∈ tables_1, d.before a0 Z = true) (ws : List Jvm.Cond) (cc : Int64) (rate : Int32) (days : Int32) (y : Int32) (pp : Int32) (ss : Int32) (N : Nat) (h0 : Heap) (n0 : Nat) (Z0 : n0 ≤ h0.size) (hj : (-(tL pp ss)) = Int32.ofNat N) (hj1 : N < 19) (hc174 : ¬ ((18 : Int32) < (tL pp ss))) (hc181 : ¬ ((tL pp ss) < (-18 : Int32))) (hc220 : ¬ ((0 : Int32) < (tL pp ss))) (hnz300 : ¬ ((powF N) = (0 : Int64))) (hc302 : ¬ ((0 : Int32) < (lcmpW ((ydF y).toInt64) ((9223372036854775807 : Int64) / (powF N))))) (hc351 : ¬ ((lcmpW (rdF rate days) (0 : Int64)) = (0 : Int32))) (hnz366 : ¬ ((absL (rdF rate days)) = (0 : Int64))) (hnz367 : ¬ (((9223372036854775807 : Int64) / (absL (rdF rate days))) = (0 : Int64))) (hnz381 : ¬ ((divF (ydF y) (powF N)) = (0 : Int64))) (hnz388 : ¬ ((divF (ydF y) (powF N)) = (0 : Int64))) (hc402 : ¬ ((lcmpW (absL (((centF cc (rdF rate days)) * (rdF rate days)) % (divF (ydF y) (powF N)))) ((divF (ydF y) (powF N)) - (absL (((centF cc (rdF rate days)) * (rdF rate days)) % (divF (ydF y) (powF N)))))) < (0 : Int32))) (hc409 : ¬ ((0 : Int32) < (lcmpW ((centF cc (rdF rate days)) * (rdF rate days)) (0 : Int64)))) (hN : absI (tA (pp % (24 : Int32)) (ss % (24 : Int32))) = Int32.ofNat N) (hN1 : N < 100) (fhc18 : ¬ ((18 : Int32) < (absI (tA (pp % (24 : Int32)) (ss % (24 : Int32)))))) (fhc37 : ¬ ((0 : Int32) < (tA (pp % (24 : Int32)) (ss % (24 : Int32))))) (fhc50 : ¬ ((0 : Int32) < (tA (pp % (24 : Int32)) (ss % (24 : Int32))))) (fhc67 : ¬ ((proF (rate.toInt64) (days.toInt64)) = (0 : Int32))) (fhc79 : ¬ ((proF ((rate.toInt64) * (days.toInt64)) (1 : Int64)) = (0 : Int32))) (fhc90 : ¬ ((proF ((ydF y).toInt64) (powF N)) = (0 : Int32))) (fhnz118 : ¬ ((divF (ydF y) (powF N)) = (0 : Int64))) (fhnz125 : ¬ ((divF (ydF y) (powF N)) = (0 : Int64))) (fhc134 : ¬ ((proF (centF cc (rdF rate days)) ((perF (rate.toInt64) (days.toInt64) (1 : Int64)) / (divF (ydF y) (powF N)))) = (0 : Int32))) (fhc143 : ¬ ((proF (centF cc (rdF rate days)) ((perF (rate.toInt64) (days.toInt64) (1 : Int64)) % (divF (ydF y) (powF N)))) = (0 : Int32))) (fhnz162 : ¬ ((divF (ydF y) (powF N)) = (0 : Int64))) (fhnz171 : ¬ ((divF (ydF y) (powF N)) = (0 : Int64))) (fhc185 : ¬ ((lcmpW (remF (centF cc (rdF rate days)) ((perF (rate.toInt64) (days.toInt64) (1 : Int64)) % (divF (ydF y) (powF N))) (divF (ydF y) (powF N))) ((divF (ydF y) (powF N)) - (remF (centF cc (rdF rate days)) ((perF (rate.toInt64) (days.toInt64) (1 : Int64)) % (divF (ydF y) (powF N))) (divF (ydF y) (powF N))))) < (0 : Int32))) (fhc212 : ¬ ((sumF ((centF cc (rdF rate days)) * ((perF (rate.toInt64) (days.toInt64) (1 : Int64)) / (divF (ydF y) (powF N)))) (((centF cc (rdF rate days)) * ((perF (rate.toInt64) (days.toInt64) (1 : Int64)) % (divF (ydF y) (powF N)))) / (divF (ydF y) (powF N)))) = (0 : Int32))) (fhc225 : ¬ ((sumF (((centF cc (rdF rate days)) * ((perF (rate.toInt64) (days.toInt64) (1 : Int64)) / (divF (ydF y) (powF N)))) + (((centF cc (rdF rate days)) * ((perF (rate.toInt64) (days.toInt64) (1 : Int64)) % (divF (ydF y) (powF N)))) / (divF (ydF y) (powF N)))) (rupF (centF cc (rdF rate days)) (perF (rate.toInt64) (days.toInt64) (1 : Int64)))) = (0 : Int32))) (hc450 : (lcmpW (sum3 ((centF cc (rdF rate days)) * ((perF (rate.toInt64) (days.toInt64) (1 : Int64)) / (divF (ydF y) (powF N)))) (((centF cc (rdF rate days)) * ((perF (rate.toInt64) (days.toInt64) (1 : Int64)) % (divF (ydF y) (powF N)))) / (divF (ydF y) (powF N))) (rupF (centF cc (rdF rate days)) (perF (rate.toInt64) (days.toInt64) (1 : Int64)))) ((((centF cc (rdF rate days)) * (rdF rate days)) / (divF (ydF y) (powF N))) + (-1 : Int64))) = (0 : Int32)) :
    MetFree l x (head1 (Jvm.Cond.code x code maxLocals ret :: ws) room_1) (fun aa U => aa = #[(.long cc), (.int rate), (.int days), (.int y), (.int pp), (.int ss)] ∧ Z.Warmed39 U.vm ∧ U.heap = h0) (fun _ _ _ _ _ => True) (fun _ U o U' => ∃ v L, o = .returned v ∧ Q0  h0 n0 v U'.heap L ∧ FrameEnd U o U' L room_1.cells room_1.slots) := by
  refine MetFree.of_bodySF (plainFor_of_name pn_0) hisR ?_
  intro p e s m args below meth c s₁ Bd hml0 hP hK
  obtain ⟨rfl, hZ, hh⟩ := hP
  have hx := Bd.exec
  have hby := Bd.bytes
  have hml : c.maxLocals = 32 := hml0
  have hown : s.vm.findClass "com/example/syndicata/syndicata/AccrualAccruedUnitsPinLaw" = some m.cls := findClass_of_methodNamed Bd.named
  have hnm := (name_of_methodNamed Bd.named Bd.method).1
  have X0 : Stand p l e room_1 s m #[(.long cc), (.int rate), (.int days), (.int y), (.int pp), (.int ss)] below meth c s₁ [] 0 0 := Stand.of_body Bd
  have e0 : s₁.heap = h0 := by rw [← hh, Bd.state]; rfl
  have N0 := Fr.nil n0
  have pre0 : ∀ zz, Steps p.tables e below (s₁.setTop (mkF m 0 #[.val (.long cc), .second, .val (.int rate), .val (.int days), .val (.int y), .val (.int pp), .val (.int ss), .unset, .unset, .unset, .unset, .unset, .unset, .unset, .unset, .unset, .unset, .unset, .unset, .unset, .unset, .unset, .unset, .unset, .unset, .unset, .unset, .unset, .unset, .unset, .unset, .unset] [])) zz → Steps p.tables e below (s₁.setTop (entryFrame m #[(.long cc), (.int rate), (.int days), (.int y), (.int pp), (.int ss)] maxLocals)) zz := fun zz k => castTop (ef_0 m cc rate days y pp ss) k
  obtain ⟨Tf, hf1, b, kk, locs1, Xf, ef, Zf, Vf, Nf, stf⟩ := fill0 (n0 := n0) cc rate days y pp ss X0 hx hZ hw hby hown e0 Z0
  obtain ⟨cl, Ar, q_, S_, N_, H_, G_⟩ := Vf
  have hjc : ((-(tL pp ss))).toNatClampNeg = N := by rw [hj]; exact ofNat_clamp (by omega)
  have hsz : cl.slots.size = 19 := S_
  have hin : ¬ ((-(tL pp ss)) < 0 ∨ cl.slots.size ≤ ((-(tL pp ss))).toNatClampNeg) := by rw [hjc, hsz]; exact fun q => q.elim (by rw [hj]; exact ofNat_nn (by omega)) (fun q => absurd q (by omega))
  have hat : cl.slots[((-(tL pp ss))).toNatClampNeg]? = some (.long (powF N)) := by rw [hjc, H_ N (by omega), tens_at N hj1]
  obtain ⟨_, _, ⟨T122, L122, k122, n122⟩, -, X122, ⟨Lc122, hQ122, l122, y122, z122⟩, st122⟩ := Jvm.LawKit.callS Xf hx (y := (⟨"java/lang/Math", "max", "(II)I"⟩ : MethodName)) hown (mvT hZ (hw _ (List.mem_of_getElem? (i := 21) rfl))) (mvT hZ (hw _ (List.mem_of_getElem? (i := 22) rfl))) (mvT hZ (hw _ (List.mem_of_getElem? (i := 23) rfl))) (mvT hZ (hw _ (List.mem_of_getElem? (i := 24) rfl))) (by decide) (backOf (W := 0) (rm1 l Z a0 hw [] (1 : Int32) (y &&& (2147483647 : Int32)) hf1 n0 Zf) hZ (hw _ (List.mem_of_getElem? (i := 24) rfl)) (hw _ (List.mem_of_getElem? (i := 23) rfl)) (by decide) (by decide)) (g := (mkF m 142 #[.val (.long cc), .second, .val (.int rate), .val (.int days), .val (.int y), .val (.int pp), .val (.int ss), .val (.ref b), .val (.long (9223372036854775807 : Int64)), .second, .unset, .unset, .unset, .unset, .unset, .unset, .unset, .unset, .unset, .unset, .unset, .unset, .unset, .unset, .unset, .unset, .unset, .unset, .unset, .unset, .unset, .unset] [(.int (y &&& (2147483647 : Int32))), (.int (1 : Int32))])) rfl (by rw [hml]; rfl) (argsL := [(.int (1 : Int32)), (.int (y &&& (2147483647 : Int32)))]) (rest := []) (lenOf pd_0 rfl) rfl (by show 2 * 0 + _ ≤ _; exact Nat.le_of_eq rfl) (hb hby at_142) (fun _ _ => ⟨rfl, ef, (by decide : 1 + 0 ≤ _), (by decide : 19 + 0 ≤ _)⟩)
  dsimp only [Pt.U, Pt.locs, Pt.cells, Pt.slots] at X122 l122 y122 z122 st122 hQ122
  subst l122 y122 z122
  obtain ⟨rfl, N122q, e122⟩ := hQ122
  have N122 := Fr.app Nf N122q
  obtain ⟨_, _, ⟨T123, L123, k123, n123⟩, -, X123, ⟨Lc123, hQ123, l123, y123, z123⟩, st123⟩ := Jvm.LawKit.callS X122 hx (y := (⟨"java/lang/Math", "abs", "(J)J"⟩ : MethodName)) hown (mvT hZ (hw _ (List.mem_of_getElem? (i := 25) rfl))) (mvT hZ (hw _ (List.mem_of_getElem? (i := 26) rfl))) (mvT hZ (hw _ (List.mem_of_getElem? (i := 23) rfl))) (mvT hZ (hw _ (List.mem_of_getElem? (i := 27) rfl))) (by decide) (backOf (W := 4) (rm2 l Z a0 hw [] (rdF rate days) hf1 n0 Zf) hZ (hw _ (List.mem_of_getElem? (i := 27) rfl)) (hw _ (List.mem_of_getElem? (i := 23) rfl)) (by decide) (by decide)) (g := (mkF m 363 #[.val (.long cc), .second, .val (.int rate), .val (.int days), .val (.int y), .val (.int pp), .val (.int ss), .val (.ref b), .val (.long (9223372036854775807 : Int64)), .second, .val (.int (ydF y)), .val (.int (pp % (24 : Int32))), .val (.int (ss % (24 : Int32))), .val (.int (tL pp ss)), .val (.long (rdF rate days)), .second, .val (.long (rdF rate days)), .second, .val (.long (divF (ydF y) (powF N))), .second, .val (.int (-(tL pp ss))), .unset, .unset, .unset, .unset, .unset, .unset, .unset, .unset, .unset, .unset, .unset] [(.long (rdF rate days)), (.long (9223372036854775807 : Int64)), (.long cc)])) rfl (by rw [hml]; rfl) (argsL := [(.long (rdF rate days))]) (rest := [(.long (9223372036854775807 : Int64)), (.long cc)]) (lenOf pd_1 rfl) rfl (by show 2 * 0 + _ ≤ _; exact Nat.le_of_eq rfl) (hb hby at_363) (fun _ _ => ⟨rfl, e122, (by decide : 1 + 0 ≤ _), (by decide : 19 + 0 ≤ _)⟩)
  dsimp only [Pt.U, Pt.locs, Pt.cells, Pt.slots] at X123 l123 y123 z123 st123 hQ123
  subst l123 y123 z123
  obtain ⟨rfl, N123q, e123⟩ := hQ123
  have N123 := Fr.app N122 N123q
  obtain ⟨_, _, ⟨T124, L124, k124, n124⟩, -, X124, ⟨Lc124, hQ124, l124, y124, z124⟩, st124⟩ := Jvm.LawKit.callS X123 hx (y := (⟨"java/lang/Math", "abs", "(J)J"⟩ : MethodName)) hown (mvT hZ (hw _ (List.mem_of_getElem? (i := 25) rfl))) (mvT hZ (hw _ (List.mem_of_getElem? (i := 26) rfl))) (mvT hZ (hw _ (List.mem_of_getElem? (i := 23) rfl))) (mvT hZ (hw _ (List.mem_of_getElem? (i := 27) rfl))) (by decide) (backOf (W := 0) (rm2 l Z a0 hw [] (((centF cc (rdF rate days)) * (rdF rate days)) % (divF (ydF y) (powF N))) hf1 n0 Zf) hZ (hw _ (List.mem_of_getElem? (i := 27) rfl)) (hw _ (List.mem_of_getElem? (i := 23) rfl)) (by decide) (by decide)) (g := (mkF m 389 #[.val (.long cc), .second, .val (.int rate), .val (.int days), .val (.int y), .val (.int pp), .val (.int ss), .val (.ref b), .val (.long (9223372036854775807 : Int64)), .second, .val (.int (ydF y)), .val (.int (pp % (24 : Int32))), .val (.int (ss % (24 : Int32))), .val (.int (tL pp ss)), .val (.long (rdF rate days)), .second, .val (.long (rdF rate days)), .second, .val (.long (divF (ydF y) (powF N))), .second, .val (.long (centF cc (rdF rate days))), .second, .val (.long ((centF cc (rdF rate days)) * (rdF rate days))), .second, .val (.long (((centF cc (rdF rate days)) * (rdF rate days)) / (divF (ydF y) (powF N)))), .second, .unset, .unset, .unset, .unset, .unset, .unset] [(.long (((centF cc (rdF rate days)) * (rdF rate days)) % (divF (ydF y) (powF N))))])) rfl (by rw [hml]; rfl) (argsL := [(.long (((centF cc (rdF rate days)) * (rdF rate days)) % (divF (ydF y) (powF N))))]) (rest := []) (lenOf pd_1 rfl) rfl (by show 2 * 0 + _ ≤ _; exact Nat.le_of_eq rfl) (hb hby at_389) (fun _ _ => ⟨rfl, e123, (by decide : 1 + 0 ≤ _), (by decide : 19 + 0 ≤ _)⟩)
  dsimp only [Pt.U, Pt.locs, Pt.cells, Pt.slots] at X124 l124 y124 z124 st124 hQ124
  subst l124 y124 z124
  obtain ⟨rfl, N124q, e124⟩ := hQ124
  have N124 := Fr.app N123 N124q
  obtain ⟨_, _, ⟨T125, L125, k125, n125⟩, -, X125, ⟨Lc125, hQ125, l125, y125, z125⟩, st125⟩ := Jvm.LawKit.callS X124 hx (y := (⟨"com/example/syndicata/syndicata/Accrual", "accruedUnits", "(JJIJII)J"⟩ : MethodName)) hown (mvT hZ (hw _ (List.mem_of_getElem? (i := 28) rfl))) (mvT hZ (hw _ (List.mem_of_getElem? (i := 29) rfl))) (mvT hZ (hw _ (List.mem_of_getElem? (i := 30) rfl))) (mvT hZ (hw _ (List.mem_of_getElem? (i := 31) rfl))) (by decide) (backOf (W := 0) (rm3_N1 l Z a0 hw [] (centF cc (rdF rate days)) (rate.toInt64) (ss % (24 : Int32)) (days.toInt64) (ydF y) (pp % (24 : Int32)) N hf1 n0 Zf hN hN1 fhc18 fhc37 fhc50 fhc67 fhc79 fhc90 fhnz118 fhnz125 fhc134 fhc143 fhnz162 fhnz171 fhc185 fhc212 fhc225) hZ (hw _ (List.mem_of_getElem? (i := 31) rfl)) (hw _ (List.mem_of_getElem? (i := 30) rfl)) (by decide) (by decide)) (g := (mkF m 444 #[.val (.long cc), .second, .val (.int rate), .val (.int days), .val (.int y), .val (.int pp), .val (.int ss), .val (.ref b), .val (.long (9223372036854775807 : Int64)), .second, .val (.int (ydF y)), .val (.int (pp % (24 : Int32))), .val (.int (ss % (24 : Int32))), .val (.int (tL pp ss)), .val (.long (rdF rate days)), .second, .val (.long (rdF rate days)), .second, .val (.long (divF (ydF y) (powF N))), .second, .val (.long (centF cc (rdF rate days))), .second, .val (.long ((centF cc (rdF rate days)) * (rdF rate days))), .second, .val (.long (((centF cc (rdF rate days)) * (rdF rate days)) / (divF (ydF y) (powF N)))), .second, .val (.long (absL (((centF cc (rdF rate days)) * (rdF rate days)) % (divF (ydF y) (powF N))))), .second, .val (.long (-1 : Int64)), .second, .val (.long ((((centF cc (rdF rate days)) * (rdF rate days)) / (divF (ydF y) (powF N))) + (-1 : Int64))), .second] [(.int (pp % (24 : Int32))), (.int (ydF y)), (.long (days.toInt64)), (.int (ss % (24 : Int32))), (.long (rate.toInt64)), (.long (centF cc (rdF rate days)))])) rfl (by rw [hml]; rfl) (argsL := [(.long (centF cc (rdF rate days))), (.long (rate.toInt64)), (.int (ss % (24 : Int32))), (.long (days.toInt64)), (.int (ydF y)), (.int (pp % (24 : Int32)))]) (rest := []) (lenOf pd_2 rfl) rfl (by show 2 * 0 + _ ≤ _; exact Nat.le_of_eq rfl) (hb hby at_444) (fun _ _ => ⟨rfl, e124, (by decide : 1 + 0 ≤ _), (by decide : 19 + 0 ≤ _)⟩)
  dsimp only [Pt.U, Pt.locs, Pt.cells, Pt.slots] at X125 l125 y125 z125 st125 hQ125
  subst l125 y125 z125
  obtain ⟨rfl, N125q, e125⟩ := hQ125
  have N125 := Fr.app N124 N125q
  obtain ⟨fs, hr, hrun, hended, hW, hsame⟩ := X125.leave (v := some (.int (1 : Int32))) (fun h => by rw [Bd.returns] at h; cases h)
  refine ⟨_, _, pre0 _ ?_, hrun, hended, _, _, rfl, ?_, ⟨_, rfl⟩, hW, hsame.mono (by decide) (by decide)⟩
  · show Steps p.tables e below (s₁.setTop (mkF m 0 #[.val (.long cc), .second, .val (.int rate), .val (.int days), .val (.int y), .val (.int pp), .val (.int ss), .unset, .unset, .unset, .unset, .unset, .unset, .unset, .unset, .unset, .unset, .unset, .unset, .unset, .unset, .unset, .unset, .unset, .unset, .unset, .unset, .unset, .unset, .unset, .unset, .unset] [])) _
    refine stf _ ?_
    show Steps p.tables e below (Tf.setTop (mkF m 131 #[.val (.long cc), .second, .val (.int rate), .val (.int days), .val (.int y), .val (.int pp), .val (.int ss), .val (.ref b), .unset, .unset, .unset, .unset, .unset, .unset, .unset, .unset, .unset, .unset, .unset, .unset, .unset, .unset, .unset, .unset, .unset, .unset, .unset, .unset, .unset, .unset, .unset, .unset] [])) _
    refine Xf.ldc2Long hx hown (mvT hZ (hw _ (List.mem_of_getElem? (i := 19) rfl))) (g := (mkF m 131 #[.val (.long cc), .second, .val (.int rate), .val (.int days), .val (.int y), .val (.int pp), .val (.int ss), .val (.ref b), .unset, .unset, .unset, .unset, .unset, .unset, .unset, .unset, .unset, .unset, .unset, .unset, .unset, .unset, .unset, .unset, .unset, .unset, .unset, .unset, .unset, .unset, .unset, .unset] [])) rfl (hb hby at_131) _ ?_
    refine XS.lstore Xf.here hx rfl (hb hby at_134) rfl (l' := #[.val (.long cc), .second, .val (.int rate), .val (.int days), .val (.int y), .val (.int pp), .val (.int ss), .val (.ref b), .val (.long (9223372036854775807 : Int64)), .second, .unset, .unset, .unset, .unset, .unset, .unset, .unset, .unset, .unset, .unset, .unset, .unset, .unset, .unset, .unset, .unset, .unset, .unset, .unset, .unset, .unset, .unset]) rfl ?_
    refine XS.iconst Xf.here hx rfl (hb hby at_136) ?_
    refine XS.iload Xf.here hx rfl (hb hby at_137) rfl ?_
    refine Xf.ldcInt hx hown (mvT hZ (hw _ (List.mem_of_getElem? (i := 20) rfl))) (g := (mkF m 139 #[.val (.long cc), .second, .val (.int rate), .val (.int days), .val (.int y), .val (.int pp), .val (.int ss), .val (.ref b), .val (.long (9223372036854775807 : Int64)), .second, .unset, .unset, .unset, .unset, .unset, .unset, .unset, .unset, .unset, .unset, .unset, .unset, .unset, .unset, .unset, .unset, .unset, .unset, .unset, .unset, .unset, .unset] [(.int y), (.int (1 : Int32))])) rfl (hb hby at_139) _ ?_
    refine XS.iand Xf.here hx rfl (hb hby at_141) rfl ?_
    show Steps p.tables e below (Tf.setTop (mkF m 142 #[.val (.long cc), .second, .val (.int rate), .val (.int days), .val (.int y), .val (.int pp), .val (.int ss), .val (.ref b), .val (.long (9223372036854775807 : Int64)), .second, .unset, .unset, .unset, .unset, .unset, .unset, .unset, .unset, .unset, .unset, .unset, .unset, .unset, .unset, .unset, .unset, .unset, .unset, .unset, .unset, .unset, .unset] [(.int (y &&& (2147483647 : Int32))), (.int (1 : Int32))])) _
    refine st122 _ ?_
    show Steps p.tables e below (T122.setTop (mkF m 145 #[.val (.long cc), .second, .val (.int rate), .val (.int days), .val (.int y), .val (.int pp), .val (.int ss), .val (.ref b), .val (.long (9223372036854775807 : Int64)), .second, .unset, .unset, .unset, .unset, .unset, .unset, .unset, .unset, .unset, .unset, .unset, .unset, .unset, .unset, .unset, .unset, .unset, .unset, .unset, .unset, .unset, .unset] [(.int (ydF y))])) _
    refine XS.istore X122.here hx rfl (hb hby at_145) rfl (l' := #[.val (.long cc), .second, .val (.int rate), .val (.int days), .val (.int y), .val (.int pp), .val (.int ss), .val (.ref b), .val (.long (9223372036854775807 : Int64)), .second, .val (.int (ydF y)), .unset, .unset, .unset, .unset, .unset, .unset, .unset, .unset, .unset, .unset, .unset, .unset, .unset, .unset, .unset, .unset, .unset, .unset, .unset, .unset, .unset]) rfl ?_
    refine XS.iload X122.here hx rfl (hb hby at_147) rfl ?_
    refine XS.bipush X122.here hx rfl (hb hby at_149) ?_
    refine gwIrem X122.here hx rfl (hb hby at_151) rfl (by decide : ¬ ((24 : Int32) = (0 : Int32))) ?_
    refine XS.istore X122.here hx rfl (hb hby at_152) rfl (l' := #[.val (.long cc), .second, .val (.int rate), .val (.int days), .val (.int y), .val (.int pp), .val (.int ss), .val (.ref b), .val (.long (9223372036854775807 : Int64)), .second, .val (.int (ydF y)), .val (.int (pp % (24 : Int32))), .unset, .unset, .unset, .unset, .unset, .unset, .unset, .unset, .unset, .unset, .unset, .unset, .unset, .unset, .unset, .unset, .unset, .unset, .unset, .unset]) rfl ?_
    refine XS.iload X122.here hx rfl (hb hby at_154) rfl ?_
    refine XS.bipush X122.here hx rfl (hb hby at_156) ?_
    refine gwIrem X122.here hx rfl (hb hby at_158) rfl (by decide : ¬ ((24 : Int32) = (0 : Int32))) ?_
    show Steps p.tables e below (T122.setTop (mkF m 159 #[.val (.long cc), .second, .val (.int rate), .val (.int days), .val (.int y), .val (.int pp), .val (.int ss), .val (.ref b), .val (.long (9223372036854775807 : Int64)), .second, .val (.int (ydF y)), .val (.int (pp % (24 : Int32))), .unset, .unset, .unset, .unset, .unset, .unset, .unset, .unset, .unset, .unset, .unset, .unset, .unset, .unset, .unset, .unset, .unset, .unset, .unset, .unset] [(.int (ss % (24 : Int32)))])) _
    refine XS.istore X122.here hx rfl (hb hby at_159) rfl (l' := #[.val (.long cc), .second, .val (.int rate), .val (.int days), .val (.int y), .val (.int pp), .val (.int ss), .val (.ref b), .val (.long (9223372036854775807 : Int64)), .second, .val (.int (ydF y)), .val (.int (pp % (24 : Int32))), .val (.int (ss % (24 : Int32))), .unset, .unset, .unset, .unset, .unset, .unset, .unset, .unset, .unset, .unset, .unset, .unset, .unset, .unset, .unset, .unset, .unset, .unset, .unset]) rfl ?_
    refine XS.iload X122.here hx rfl (hb hby at_161) rfl ?_
    refine XS.iconst X122.here hx rfl (hb hby at_163) ?_
    refine XS.isub X122.here hx rfl (hb hby at_164) rfl ?_
    refine XS.iload X122.here hx rfl (hb hby at_165) rfl ?_
    refine XS.isub X122.here hx rfl (hb hby at_167) rfl ?_
    show Steps p.tables e below (T122.setTop (mkF m 168 #[.val (.long cc), .second, .val (.int rate), .val (.int days), .val (.int y), .val (.int pp), .val (.int ss), .val (.ref b), .val (.long (9223372036854775807 : Int64)), .second, .val (.int (ydF y)), .val (.int (pp % (24 : Int32))), .val (.int (ss % (24 : Int32))), .unset, .unset, .unset, .unset, .unset, .unset, .unset, .unset, .unset, .unset, .unset, .unset, .unset, .unset, .unset, .unset, .unset, .unset, .unset] [(.int (tL pp ss))])) _
    refine XS.istore X122.here hx rfl (hb hby at_168) rfl (l' := #[.val (.long cc), .second, .val (.int rate), .val (.int days), .val (.int y), .val (.int pp), .val (.int ss), .val (.ref b), .val (.long (9223372036854775807 : Int64)), .second, .val (.int (ydF y)), .val (.int (pp % (24 : Int32))), .val (.int (ss % (24 : Int32))), .val (.int (tL pp ss)), .unset, .unset, .unset, .unset, .unset, .unset, .unset, .unset, .unset, .unset, .unset, .unset, .unset, .unset, .unset, .unset, .unset, .unset]) rfl ?_
    refine XS.iload X122.here hx rfl (hb hby at_170) rfl ?_
    refine XS.bipush X122.here hx rfl (hb hby at_172) ?_
    refine XS.icmpNo X122.here hx rfl (hb hby at_174) rfl (flt hc174).2.2.1 ?_
    refine XS.iload X122.here hx rfl (hb hby at_177) rfl ?_
    refine XS.bipush X122.here hx rfl (hb hby at_179) ?_
    refine XS.icmpYes X122.here hx rfl (pc0 := 181) (pc' := 211) rfl (hb hby at_181) rfl (flt hc181).2.1 (by decide) (by decide) ?_
    refine XS.iloadN X122.here hx rfl (hb hby at_211) rfl ?_
    show Steps p.tables e below (T122.setTop (mkF m 212 #[.val (.long cc), .second, .val (.int rate), .val (.int days), .val (.int y), .val (.int pp), .val (.int ss), .val (.ref b), .val (.long (9223372036854775807 : Int64)), .second, .val (.int (ydF y)), .val (.int (pp % (24 : Int32))), .val (.int (ss % (24 : Int32))), .val (.int (tL pp ss)), .unset, .unset, .unset, .unset, .unset, .unset, .unset, .unset, .unset, .unset, .unset, .unset, .unset, .unset, .unset, .unset, .unset, .unset] [(.int rate)])) _
    refine XS.i2l X122.here hx rfl (hb hby at_212) rfl ?_
    refine XS.iloadN X122.here hx rfl (hb hby at_213) rfl ?_
    refine XS.i2l X122.here hx rfl (hb hby at_214) rfl ?_
    refine XS.lmul X122.here hx rfl (hb hby at_215) rfl ?_
    show Steps p.tables e below (T122.setTop (mkF m 216 #[.val (.long cc), .second, .val (.int rate), .val (.int days), .val (.int y), .val (.int pp), .val (.int ss), .val (.ref b), .val (.long (9223372036854775807 : Int64)), .second, .val (.int (ydF y)), .val (.int (pp % (24 : Int32))), .val (.int (ss % (24 : Int32))), .val (.int (tL pp ss)), .unset, .unset, .unset, .unset, .unset, .unset, .unset, .unset, .unset, .unset, .unset, .unset, .unset, .unset, .unset, .unset, .unset, .unset] [(.long (rdF rate days))])) _
    refine XS.lstore X122.here hx rfl (hb hby at_216) rfl (l' := #[.val (.long cc), .second, .val (.int rate), .val (.int days), .val (.int y), .val (.int pp), .val (.int ss), .val (.ref b), .val (.long (9223372036854775807 : Int64)), .second, .val (.int (ydF y)), .val (.int (pp % (24 : Int32))), .val (.int (ss % (24 : Int32))), .val (.int (tL pp ss)), .val (.long (rdF rate days)), .second, .unset, .unset, .unset, .unset, .unset, .unset, .unset, .unset, .unset, .unset, .unset, .unset, .unset, .unset, .unset, .unset]) rfl ?_
    refine XS.iload X122.here hx rfl (hb hby at_218) rfl ?_
    refine XS.ifYes X122.here hx rfl (pc0 := 220) (pc' := 285) rfl (hb hby at_220) rfl ((if0 _ _).trans (flt hc220).2.2.2) (by decide) (by decide) ?_
    refine XS.iload X122.here hx rfl (hb hby at_285) rfl ?_
    refine XS.ineg X122.here hx rfl (hb hby at_287) rfl ?_
    refine XS.istore X122.here hx rfl (hb hby at_288) rfl (l' := #[.val (.long cc), .second, .val (.int rate), .val (.int days), .val (.int y), .val (.int pp), .val (.int ss), .val (.ref b), .val (.long (9223372036854775807 : Int64)), .second, .val (.int (ydF y)), .val (.int (pp % (24 : Int32))), .val (.int (ss % (24 : Int32))), .val (.int (tL pp ss)), .val (.long (rdF rate days)), .second, .unset, .unset, .unset, .unset, .val (.int (-(tL pp ss))), .unset, .unset, .unset, .unset, .unset, .unset, .unset, .unset, .unset, .unset, .unset]) rfl ?_
    refine XS.iload X122.here hx rfl (hb hby at_290) rfl ?_
    refine XS.i2l X122.here hx rfl (hb hby at_292) rfl ?_
    show Steps p.tables e below (T122.setTop (mkF m 293 #[.val (.long cc), .second, .val (.int rate), .val (.int days), .val (.int y), .val (.int pp), .val (.int ss), .val (.ref b), .val (.long (9223372036854775807 : Int64)), .second, .val (.int (ydF y)), .val (.int (pp % (24 : Int32))), .val (.int (ss % (24 : Int32))), .val (.int (tL pp ss)), .val (.long (rdF rate days)), .second, .unset, .unset, .unset, .unset, .val (.int (-(tL pp ss))), .unset, .unset, .unset, .unset, .unset, .unset, .unset, .unset, .unset, .unset, .unset] [(.long ((ydF y).toInt64))])) _
    refine XS.lload X122.here hx rfl (hb hby at_293) rfl ?_
    refine XS.aload X122.here hx rfl (hb hby at_295) rfl rfl ?_
    refine XS.iload X122.here hx rfl (hb hby at_297) rfl ?_
    show Steps p.tables e below (T122.setTop (mkF m 299 #[.val (.long cc), .second, .val (.int rate), .val (.int days), .val (.int y), .val (.int pp), .val (.int ss), .val (.ref b), .val (.long (9223372036854775807 : Int64)), .second, .val (.int (ydF y)), .val (.int (pp % (24 : Int32))), .val (.int (ss % (24 : Int32))), .val (.int (tL pp ss)), .val (.long (rdF rate days)), .second, .unset, .unset, .unset, .unset, .val (.int (-(tL pp ss))), .unset, .unset, .unset, .unset, .unset, .unset, .unset, .unset, .unset, .unset, .unset] [(.int (-(tL pp ss))), (.ref b), (.long (9223372036854775807 : Int64)), (.long ((ydF y).toInt64))])) _
    refine X122.laload hx (j := (-(tL pp ss))) (v := (.long (powF N))) (by rw [e122]; exact Ar.1) (State.isArrayOf_alike hZ.alike Ar.2.1) Ar.2.2 hin hat (g := (mkF m 299 #[.val (.long cc), .second, .val (.int rate), .val (.int days), .val (.int y), .val (.int pp), .val (.int ss), .val (.ref b), .val (.long (9223372036854775807 : Int64)), .second, .val (.int (ydF y)), .val (.int (pp % (24 : Int32))), .val (.int (ss % (24 : Int32))), .val (.int (tL pp ss)), .val (.long (rdF rate days)), .second, .unset, .unset, .unset, .unset, .val (.int (-(tL pp ss))), .unset, .unset, .unset, .unset, .unset, .unset, .unset, .unset, .unset, .unset, .unset] [(.int (-(tL pp ss))), (.ref b), (.long (9223372036854775807 : Int64)), (.long ((ydF y).toInt64))])) rfl rfl (hb hby at_299) _ ?_
    refine XS.ldiv X122.here hx rfl (hb hby at_300) rfl hnz300 ?_
    refine XS.lcmp X122.here hx rfl (hb hby at_301) rfl ?_
    refine XS.ifYes X122.here hx rfl (pc0 := 302) (pc' := 332) rfl (hb hby at_302) rfl ((if0 _ _).trans (flt hc302).2.2.2) (by decide) (by decide) ?_
    refine XS.lload X122.here hx rfl (hb hby at_332) rfl ?_
    refine XS.lstore X122.here hx rfl (hb hby at_334) rfl (l' := #[.val (.long cc), .second, .val (.int rate), .val (.int days), .val (.int y), .val (.int pp), .val (.int ss), .val (.ref b), .val (.long (9223372036854775807 : Int64)), .second, .val (.int (ydF y)), .val (.int (pp % (24 : Int32))), .val (.int (ss % (24 : Int32))), .val (.int (tL pp ss)), .val (.long (rdF rate days)), .second, .val (.long (rdF rate days)), .second, .unset, .unset, .val (.int (-(tL pp ss))), .unset, .unset, .unset, .unset, .unset, .unset, .unset, .unset, .unset, .unset, .unset]) rfl ?_
    refine XS.iload X122.here hx rfl (hb hby at_336) rfl ?_
    refine XS.i2l X122.here hx rfl (hb hby at_338) rfl ?_
    show Steps p.tables e below (T122.setTop (mkF m 339 #[.val (.long cc), .second, .val (.int rate), .val (.int days), .val (.int y), .val (.int pp), .val (.int ss), .val (.ref b), .val (.long (9223372036854775807 : Int64)), .second, .val (.int (ydF y)), .val (.int (pp % (24 : Int32))), .val (.int (ss % (24 : Int32))), .val (.int (tL pp ss)), .val (.long (rdF rate days)), .second, .val (.long (rdF rate days)), .second, .unset, .unset, .val (.int (-(tL pp ss))), .unset, .unset, .unset, .unset, .unset, .unset, .unset, .unset, .unset, .unset, .unset] [(.long ((ydF y).toInt64))])) _
    refine XS.aload X122.here hx rfl (hb hby at_339) rfl rfl ?_
    refine XS.iload X122.here hx rfl (hb hby at_341) rfl ?_
    show Steps p.tables e below (T122.setTop (mkF m 343 #[.val (.long cc), .second, .val (.int rate), .val (.int days), .val (.int y), .val (.int pp), .val (.int ss), .val (.ref b), .val (.long (9223372036854775807 : Int64)), .second, .val (.int (ydF y)), .val (.int (pp % (24 : Int32))), .val (.int (ss % (24 : Int32))), .val (.int (tL pp ss)), .val (.long (rdF rate days)), .second, .val (.long (rdF rate days)), .second, .unset, .unset, .val (.int (-(tL pp ss))), .unset, .unset, .unset, .unset, .unset, .unset, .unset, .unset, .unset, .unset, .unset] [(.int (-(tL pp ss))), (.ref b), (.long ((ydF y).toInt64))])) _
    refine X122.laload hx (j := (-(tL pp ss))) (v := (.long (powF N))) (by rw [e122]; exact Ar.1) (State.isArrayOf_alike hZ.alike Ar.2.1) Ar.2.2 hin hat (g := (mkF m 343 #[.val (.long cc), .second, .val (.int rate), .val (.int days), .val (.int y), .val (.int pp), .val (.int ss), .val (.ref b), .val (.long (9223372036854775807 : Int64)), .second, .val (.int (ydF y)), .val (.int (pp % (24 : Int32))), .val (.int (ss % (24 : Int32))), .val (.int (tL pp ss)), .val (.long (rdF rate days)), .second, .val (.long (rdF rate days)), .second, .unset, .unset, .val (.int (-(tL pp ss))), .unset, .unset, .unset, .unset, .unset, .unset, .unset, .unset, .unset, .unset, .unset] [(.int (-(tL pp ss))), (.ref b), (.long ((ydF y).toInt64))])) rfl rfl (hb hby at_343) _ ?_
    refine XS.lmul X122.here hx rfl (hb hby at_344) rfl ?_
    show Steps p.tables e below (T122.setTop (mkF m 345 #[.val (.long cc), .second, .val (.int rate), .val (.int days), .val (.int y), .val (.int pp), .val (.int ss), .val (.ref b), .val (.long (9223372036854775807 : Int64)), .second, .val (.int (ydF y)), .val (.int (pp % (24 : Int32))), .val (.int (ss % (24 : Int32))), .val (.int (tL pp ss)), .val (.long (rdF rate days)), .second, .val (.long (rdF rate days)), .second, .unset, .unset, .val (.int (-(tL pp ss))), .unset, .unset, .unset, .unset, .unset, .unset, .unset, .unset, .unset, .unset, .unset] [(.long (divF (ydF y) (powF N)))])) _
    refine XS.lstore X122.here hx rfl (hb hby at_345) rfl (l' := #[.val (.long cc), .second, .val (.int rate), .val (.int days), .val (.int y), .val (.int pp), .val (.int ss), .val (.ref b), .val (.long (9223372036854775807 : Int64)), .second, .val (.int (ydF y)), .val (.int (pp % (24 : Int32))), .val (.int (ss % (24 : Int32))), .val (.int (tL pp ss)), .val (.long (rdF rate days)), .second, .val (.long (rdF rate days)), .second, .val (.long (divF (ydF y) (powF N))), .second, .val (.int (-(tL pp ss))), .unset, .unset, .unset, .unset, .unset, .unset, .unset, .unset, .unset, .unset, .unset]) rfl ?_
    refine XS.lload X122.here hx rfl (hb hby at_347) rfl ?_
    refine XS.lconst X122.here hx rfl (hb hby at_349) ?_
    refine XS.lcmp X122.here hx rfl (hb hby at_350) rfl ?_
    refine XS.ifYes X122.here hx rfl (pc0 := 351) (pc' := 358) rfl (hb hby at_351) rfl ((if0 _ _).trans (feq hc351).2) (by decide) (by decide) ?_
    refine XS.lloadN X122.here hx rfl (hb hby at_358) rfl ?_
    refine XS.lload X122.here hx rfl (hb hby at_359) rfl ?_
    refine XS.lload X122.here hx rfl (hb hby at_361) rfl ?_
    show Steps p.tables e below (T122.setTop (mkF m 363 #[.val (.long cc), .second, .val (.int rate), .val (.int days), .val (.int y), .val (.int pp), .val (.int ss), .val (.ref b), .val (.long (9223372036854775807 : Int64)), .second, .val (.int (ydF y)), .val (.int (pp % (24 : Int32))), .val (.int (ss % (24 : Int32))), .val (.int (tL pp ss)), .val (.long (rdF rate days)), .second, .val (.long (rdF rate days)), .second, .val (.long (divF (ydF y) (powF N))), .second, .val (.int (-(tL pp ss))), .unset, .unset, .unset, .unset, .unset, .unset, .unset, .unset, .unset, .unset, .unset] [(.long (rdF rate days)), (.long (9223372036854775807 : Int64)), (.long cc)])) _
    refine st123 _ ?_
    refine XS.ldiv X123.here hx rfl (hb hby at_366) rfl hnz366 ?_
    refine gwLrem X123.here hx rfl (hb hby at_367) rfl hnz367 ?_
    show Steps p.tables e below (T123.setTop (mkF m 368 #[.val (.long cc), .second, .val (.int rate), .val (.int days), .val (.int y), .val (.int pp), .val (.int ss), .val (.ref b), .val (.long (9223372036854775807 : Int64)), .second, .val (.int (ydF y)), .val (.int (pp % (24 : Int32))), .val (.int (ss % (24 : Int32))), .val (.int (tL pp ss)), .val (.long (rdF rate days)), .second, .val (.long (rdF rate days)), .second, .val (.long (divF (ydF y) (powF N))), .second, .val (.int (-(tL pp ss))), .unset, .unset, .unset, .unset, .unset, .unset, .unset, .unset, .unset, .unset, .unset] [(.long (centF cc (rdF rate days)))])) _
    refine XS.lstore X123.here hx rfl (hb hby at_368) rfl (l' := #[.val (.long cc), .second, .val (.int rate), .val (.int days), .val (.int y), .val (.int pp), .val (.int ss), .val (.ref b), .val (.long (9223372036854775807 : Int64)), .second, .val (.int (ydF y)), .val (.int (pp % (24 : Int32))), .val (.int (ss % (24 : Int32))), .val (.int (tL pp ss)), .val (.long (rdF rate days)), .second, .val (.long (rdF rate days)), .second, .val (.long (divF (ydF y) (powF N))), .second, .val (.long (centF cc (rdF rate days))), .second, .unset, .unset, .unset, .unset, .unset, .unset, .unset, .unset, .unset, .unset]) rfl ?_
    refine XS.lload X123.here hx rfl (hb hby at_370) rfl ?_
    refine XS.lload X123.here hx rfl (hb hby at_372) rfl ?_
    refine XS.lmul X123.here hx rfl (hb hby at_374) rfl ?_
    refine XS.lstore X123.here hx rfl (hb hby at_375) rfl (l' := #[.val (.long cc), .second, .val (.int rate), .val (.int days), .val (.int y), .val (.int pp), .val (.int ss), .val (.ref b), .val (.long (9223372036854775807 : Int64)), .second, .val (.int (ydF y)), .val (.int (pp % (24 : Int32))), .val (.int (ss % (24 : Int32))), .val (.int (tL pp ss)), .val (.long (rdF rate days)), .second, .val (.long (rdF rate days)), .second, .val (.long (divF (ydF y) (powF N))), .second, .val (.long (centF cc (rdF rate days))), .second, .val (.long ((centF cc (rdF rate days)) * (rdF rate days))), .second, .unset, .unset, .unset, .unset, .unset, .unset, .unset, .unset]) rfl ?_
    refine XS.lload X123.here hx rfl (hb hby at_377) rfl ?_
    refine XS.lload X123.here hx rfl (hb hby at_379) rfl ?_
    refine XS.ldiv X123.here hx rfl (hb hby at_381) rfl hnz381 ?_
    show Steps p.tables e below (T123.setTop (mkF m 382 #[.val (.long cc), .second, .val (.int rate), .val (.int days), .val (.int y), .val (.int pp), .val (.int ss), .val (.ref b), .val (.long (9223372036854775807 : Int64)), .second, .val (.int (ydF y)), .val (.int (pp % (24 : Int32))), .val (.int (ss % (24 : Int32))), .val (.int (tL pp ss)), .val (.long (rdF rate days)), .second, .val (.long (rdF rate days)), .second, .val (.long (divF (ydF y) (powF N))), .second, .val (.long (centF cc (rdF rate days))), .second, .val (.long ((centF cc (rdF rate days)) * (rdF rate days))), .second, .unset, .unset, .unset, .unset, .unset, .unset, .unset, .unset] [(.long (((centF cc (rdF rate days)) * (rdF rate days)) / (divF (ydF y) (powF N))))])) _
    refine XS.lstore X123.here hx rfl (hb hby at_382) rfl (l' := #[.val (.long cc), .second, .val (.int rate), .val (.int days), .val (.int y), .val (.int pp), .val (.int ss), .val (.ref b), .val (.long (9223372036854775807 : Int64)), .second, .val (.int (ydF y)), .val (.int (pp % (24 : Int32))), .val (.int (ss % (24 : Int32))), .val (.int (tL pp ss)), .val (.long (rdF rate days)), .second, .val (.long (rdF rate days)), .second, .val (.long (divF (ydF y) (powF N))), .second, .val (.long (centF cc (rdF rate days))), .second, .val (.long ((centF cc (rdF rate days)) * (rdF rate days))), .second, .val (.long (((centF cc (rdF rate days)) * (rdF rate days)) / (divF (ydF y) (powF N)))), .second, .unset, .unset, .unset, .unset, .unset, .unset]) rfl ?_
    refine XS.lload X123.here hx rfl (hb hby at_384) rfl ?_
    refine XS.lload X123.here hx rfl (hb hby at_386) rfl ?_
    refine gwLrem X123.here hx rfl (hb hby at_388) rfl hnz388 ?_
    show Steps p.tables e below (T123.setTop (mkF m 389 #[.val (.long cc), .second, .val (.int rate), .val (.int days), .val (.int y), .val (.int pp), .val (.int ss), .val (.ref b), .val (.long (9223372036854775807 : Int64)), .second, .val (.int (ydF y)), .val (.int (pp % (24 : Int32))), .val (.int (ss % (24 : Int32))), .val (.int (tL pp ss)), .val (.long (rdF rate days)), .second, .val (.long (rdF rate days)), .second, .val (.long (divF (ydF y) (powF N))), .second, .val (.long (centF cc (rdF rate days))), .second, .val (.long ((centF cc (rdF rate days)) * (rdF rate days))), .second, .val (.long (((centF cc (rdF rate days)) * (rdF rate days)) / (divF (ydF y) (powF N)))), .second, .unset, .unset, .unset, .unset, .unset, .unset] [(.long (((centF cc (rdF rate days)) * (rdF rate days)) % (divF (ydF y) (powF N))))])) _
    refine st124 _ ?_
    refine XS.lstore X124.here hx rfl (hb hby at_392) rfl (l' := #[.val (.long cc), .second, .val (.int rate), .val (.int days), .val (.int y), .val (.int pp), .val (.int ss), .val (.ref b), .val (.long (9223372036854775807 : Int64)), .second, .val (.int (ydF y)), .val (.int (pp % (24 : Int32))), .val (.int (ss % (24 : Int32))), .val (.int (tL pp ss)), .val (.long (rdF rate days)), .second, .val (.long (rdF rate days)), .second, .val (.long (divF (ydF y) (powF N))), .second, .val (.long (centF cc (rdF rate days))), .second, .val (.long ((centF cc (rdF rate days)) * (rdF rate days))), .second, .val (.long (((centF cc (rdF rate days)) * (rdF rate days)) / (divF (ydF y) (powF N)))), .second, .val (.long (absL (((centF cc (rdF rate days)) * (rdF rate days)) % (divF (ydF y) (powF N))))), .second, .unset, .unset, .unset, .unset]) rfl ?_
    refine XS.lload X124.here hx rfl (hb hby at_394) rfl ?_
    refine XS.lload X124.here hx rfl (hb hby at_396) rfl ?_
    refine XS.lload X124.here hx rfl (hb hby at_398) rfl ?_
    refine XS.lsub X124.here hx rfl (hb hby at_400) rfl ?_
    refine XS.lcmp X124.here hx rfl (hb hby at_401) rfl ?_
    refine XS.ifNo X124.here hx rfl (hb hby at_402) rfl ((if0 _ _).trans (flt hc402).1) ?_
    show Steps p.tables e below (T124.setTop (mkF m 405 #[.val (.long cc), .second, .val (.int rate), .val (.int days), .val (.int y), .val (.int pp), .val (.int ss), .val (.ref b), .val (.long (9223372036854775807 : Int64)), .second, .val (.int (ydF y)), .val (.int (pp % (24 : Int32))), .val (.int (ss % (24 : Int32))), .val (.int (tL pp ss)), .val (.long (rdF rate days)), .second, .val (.long (rdF rate days)), .second, .val (.long (divF (ydF y) (powF N))), .second, .val (.long (centF cc (rdF rate days))), .second, .val (.long ((centF cc (rdF rate days)) * (rdF rate days))), .second, .val (.long (((centF cc (rdF rate days)) * (rdF rate days)) / (divF (ydF y) (powF N)))), .second, .val (.long (absL (((centF cc (rdF rate days)) * (rdF rate days)) % (divF (ydF y) (powF N))))), .second, .unset, .unset, .unset, .unset] [])) _
    refine XS.lload X124.here hx rfl (hb hby at_405) rfl ?_
    refine XS.lconst X124.here hx rfl (hb hby at_407) ?_
    refine XS.lcmp X124.here hx rfl (hb hby at_408) rfl ?_
    refine XS.ifYes X124.here hx rfl (pc0 := 409) (pc' := 416) rfl (hb hby at_409) rfl ((if0 _ _).trans (flt hc409).2.2.2) (by decide) (by decide) ?_
    refine X124.ldc2Long hx hown (mvT hZ (hw _ (List.mem_of_getElem? (i := 54) rfl))) (g := (mkF m 416 #[.val (.long cc), .second, .val (.int rate), .val (.int days), .val (.int y), .val (.int pp), .val (.int ss), .val (.ref b), .val (.long (9223372036854775807 : Int64)), .second, .val (.int (ydF y)), .val (.int (pp % (24 : Int32))), .val (.int (ss % (24 : Int32))), .val (.int (tL pp ss)), .val (.long (rdF rate days)), .second, .val (.long (rdF rate days)), .second, .val (.long (divF (ydF y) (powF N))), .second, .val (.long (centF cc (rdF rate days))), .second, .val (.long ((centF cc (rdF rate days)) * (rdF rate days))), .second, .val (.long (((centF cc (rdF rate days)) * (rdF rate days)) / (divF (ydF y) (powF N)))), .second, .val (.long (absL (((centF cc (rdF rate days)) * (rdF rate days)) % (divF (ydF y) (powF N))))), .second, .unset, .unset, .unset, .unset] [])) rfl (hb hby at_416) _ ?_
    refine XS.goto X124.here hx rfl (pc0 := 419) (pc' := 423) rfl (hb hby at_419) (by decide) (by decide) ?_
    refine XS.lstore X124.here hx rfl (hb hby at_423) rfl (l' := #[.val (.long cc), .second, .val (.int rate), .val (.int days), .val (.int y), .val (.int pp), .val (.int ss), .val (.ref b), .val (.long (9223372036854775807 : Int64)), .second, .val (.int (ydF y)), .val (.int (pp % (24 : Int32))), .val (.int (ss % (24 : Int32))), .val (.int (tL pp ss)), .val (.long (rdF rate days)), .second, .val (.long (rdF rate days)), .second, .val (.long (divF (ydF y) (powF N))), .second, .val (.long (centF cc (rdF rate days))), .second, .val (.long ((centF cc (rdF rate days)) * (rdF rate days))), .second, .val (.long (((centF cc (rdF rate days)) * (rdF rate days)) / (divF (ydF y) (powF N)))), .second, .val (.long (absL (((centF cc (rdF rate days)) * (rdF rate days)) % (divF (ydF y) (powF N))))), .second, .val (.long (-1 : Int64)), .second, .unset, .unset]) rfl ?_
    refine XS.lload X124.here hx rfl (hb hby at_425) rfl ?_
    show Steps p.tables e below (T124.setTop (mkF m 427 #[.val (.long cc), .second, .val (.int rate), .val (.int days), .val (.int y), .val (.int pp), .val (.int ss), .val (.ref b), .val (.long (9223372036854775807 : Int64)), .second, .val (.int (ydF y)), .val (.int (pp % (24 : Int32))), .val (.int (ss % (24 : Int32))), .val (.int (tL pp ss)), .val (.long (rdF rate days)), .second, .val (.long (rdF rate days)), .second, .val (.long (divF (ydF y) (powF N))), .second, .val (.long (centF cc (rdF rate days))), .second, .val (.long ((centF cc (rdF rate days)) * (rdF rate days))), .second, .val (.long (((centF cc (rdF rate days)) * (rdF rate days)) / (divF (ydF y) (powF N)))), .second, .val (.long (absL (((centF cc (rdF rate days)) * (rdF rate days)) % (divF (ydF y) (powF N))))), .second, .val (.long (-1 : Int64)), .second, .unset, .unset] [(.long (((centF cc (rdF rate days)) * (rdF rate days)) / (divF (ydF y) (powF N))))])) _
    refine XS.lload X124.here hx rfl (hb hby at_427) rfl ?_
    refine XS.ladd X124.here hx rfl (hb hby at_429) rfl ?_
    refine XS.lstore X124.here hx rfl (hb hby at_430) rfl (l' := #[.val (.long cc), .second, .val (.int rate), .val (.int days), .val (.int y), .val (.int pp), .val (.int ss), .val (.ref b), .val (.long (9223372036854775807 : Int64)), .second, .val (.int (ydF y)), .val (.int (pp % (24 : Int32))), .val (.int (ss % (24 : Int32))), .val (.int (tL pp ss)), .val (.long (rdF rate days)), .second, .val (.long (rdF rate days)), .second, .val (.long (divF (ydF y) (powF N))), .second, .val (.long (centF cc (rdF rate days))), .second, .val (.long ((centF cc (rdF rate days)) * (rdF rate days))), .second, .val (.long (((centF cc (rdF rate days)) * (rdF rate days)) / (divF (ydF y) (powF N)))), .second, .val (.long (absL (((centF cc (rdF rate days)) * (rdF rate days)) % (divF (ydF y) (powF N))))), .second, .val (.long (-1 : Int64)), .second, .val (.long ((((centF cc (rdF rate days)) * (rdF rate days)) / (divF (ydF y) (powF N))) + (-1 : Int64))), .second]) rfl ?_
    refine XS.lload X124.here hx rfl (hb hby at_432) rfl ?_
    refine XS.iloadN X124.here hx rfl (hb hby at_434) rfl ?_
    refine XS.i2l X124.here hx rfl (hb hby at_435) rfl ?_
    refine XS.iload X124.here hx rfl (hb hby at_436) rfl ?_
    refine XS.iloadN X124.here hx rfl (hb hby at_438) rfl ?_
    show Steps p.tables e below (T124.setTop (mkF m 439 #[.val (.long cc), .second, .val (.int rate), .val (.int days), .val (.int y), .val (.int pp), .val (.int ss), .val (.ref b), .val (.long (9223372036854775807 : Int64)), .second, .val (.int (ydF y)), .val (.int (pp % (24 : Int32))), .val (.int (ss % (24 : Int32))), .val (.int (tL pp ss)), .val (.long (rdF rate days)), .second, .val (.long (rdF rate days)), .second, .val (.long (divF (ydF y) (powF N))), .second, .val (.long (centF cc (rdF rate days))), .second, .val (.long ((centF cc (rdF rate days)) * (rdF rate days))), .second, .val (.long (((centF cc (rdF rate days)) * (rdF rate days)) / (divF (ydF y) (powF N)))), .second, .val (.long (absL (((centF cc (rdF rate days)) * (rdF rate days)) % (divF (ydF y) (powF N))))), .second, .val (.long (-1 : Int64)), .second, .val (.long ((((centF cc (rdF rate days)) * (rdF rate days)) / (divF (ydF y) (powF N))) + (-1 : Int64))), .second] [(.int days), (.int (ss % (24 : Int32))), (.long (rate.toInt64)), (.long (centF cc (rdF rate days)))])) _
    refine XS.i2l X124.here hx rfl (hb hby at_439) rfl ?_
    refine XS.iload X124.here hx rfl (hb hby at_440) rfl ?_
    refine XS.iload X124.here hx rfl (hb hby at_442) rfl ?_
    show Steps p.tables e below (T124.setTop (mkF m 444 #[.val (.long cc), .second, .val (.int rate), .val (.int days), .val (.int y), .val (.int pp), .val (.int ss), .val (.ref b), .val (.long (9223372036854775807 : Int64)), .second, .val (.int (ydF y)), .val (.int (pp % (24 : Int32))), .val (.int (ss % (24 : Int32))), .val (.int (tL pp ss)), .val (.long (rdF rate days)), .second, .val (.long (rdF rate days)), .second, .val (.long (divF (ydF y) (powF N))), .second, .val (.long (centF cc (rdF rate days))), .second, .val (.long ((centF cc (rdF rate days)) * (rdF rate days))), .second, .val (.long (((centF cc (rdF rate days)) * (rdF rate days)) / (divF (ydF y) (powF N)))), .second, .val (.long (absL (((centF cc (rdF rate days)) * (rdF rate days)) % (divF (ydF y) (powF N))))), .second, .val (.long (-1 : Int64)), .second, .val (.long ((((centF cc (rdF rate days)) * (rdF rate days)) / (divF (ydF y) (powF N))) + (-1 : Int64))), .second] [(.int (pp % (24 : Int32))), (.int (ydF y)), (.long (days.toInt64)), (.int (ss % (24 : Int32))), (.long (rate.toInt64)), (.long (centF cc (rdF rate days)))])) _
    refine st125 _ ?_
    refine XS.lload X125.here hx rfl (hb hby at_447) rfl ?_
    refine XS.lcmp X125.here hx rfl (hb hby at_449) rfl ?_
    refine XS.ifNo X125.here hx rfl (hb hby at_450) rfl ((if0 _ _).trans (teq hc450).2) ?_
    refine XS.iconst X125.here hx rfl (hb hby at_453) ?_
    refine XS.goto X125.here hx rfl (pc0 := 454) (pc' := 458) rfl (hb hby at_454) (by decide) (by decide) ?_
    show Steps p.tables e below (T125.setTop (mkF m 458 #[.val (.long cc), .second, .val (.int rate), .val (.int days), .val (.int y), .val (.int pp), .val (.int ss), .val (.ref b), .val (.long (9223372036854775807 : Int64)), .second, .val (.int (ydF y)), .val (.int (pp % (24 : Int32))), .val (.int (ss % (24 : Int32))), .val (.int (tL pp ss)), .val (.long (rdF rate days)), .second, .val (.long (rdF rate days)), .second, .val (.long (divF (ydF y) (powF N))), .second, .val (.long (centF cc (rdF rate days))), .second, .val (.long ((centF cc (rdF rate days)) * (rdF rate days))), .second, .val (.long (((centF cc (rdF rate days)) * (rdF rate days)) / (divF (ydF y) (powF N)))), .second, .val (.long (absL (((centF cc (rdF rate days)) * (rdF rate days)) % (divF (ydF y) (powF N))))), .second, .val (.long (-1 : Int64)), .second, .val (.long ((((centF cc (rdF rate days)) * (rdF rate days)) / (divF (ydF y) (powF N))) + (-1 : Int64))), .second] [(.int (1 : Int32))])) _
    exact retN X125 hx (t := .boolean) Bd.returns (by simp) (hb hby at_458) hr
  · show Q0  h0 n0 _ T125.heap _
    exact ⟨rfl, N125⟩
section Plain
open Jvm.Kit
theorem mul_bd {x y A B C : Int} (h1 : -A ≤ x) (h2 : x ≤ B) (h3 : 0 ≤ y) (h4 : y ≤ C) (hA : 0 ≤ A) (hB : 0 ≤ B) : -(A * C) ≤ x * y ∧ x * y ≤ B * C := by
  constructor
  · have a1 : (-A) * y ≤ x * y := Int.mul_le_mul_of_nonneg_right h1 h3
    have a2 : A * y ≤ A * C := Int.mul_le_mul_of_nonneg_left h4 hA
    rw [Int.neg_mul] at a1
    omega
  · have a1 : x * y ≤ B * y := Int.mul_le_mul_of_nonneg_right h2 h3
    have a2 : B * y ≤ B * C := Int.mul_le_mul_of_nonneg_left h4 hB
    omega
theorem absL_toInt {a : Int64} (h : a.toInt ≠ -2 ^ 63) : (absL a).toInt = (a.toInt.natAbs : Int) := by
  unfold absL
  by_cases h1 : lcmpW a 0 < 0
  · rw [if_pos h1]; rw [lw_lt, Int64.lt_iff_toInt_lt, Int64.toInt_zero] at h1; rw [i64_neg h]; omega
  · rw [if_neg h1]; rw [lw_lt, Int64.lt_iff_toInt_lt, Int64.toInt_zero] at h1; omega
theorem absI_toInt {a : Int32} (h : a.toInt ≠ -2 ^ 31) : (absI a).toInt = (a.toInt.natAbs : Int) := by
  unfold absI
  by_cases h1 : a < 0
  · rw [if_pos h1]; rw [Int32.lt_iff_toInt_lt, Int32.toInt_zero] at h1; rw [i32_neg h]; omega
  · rw [if_neg h1]; rw [Int32.lt_iff_toInt_lt, Int32.toInt_zero] at h1; omega
theorem mhX1_toInt (a : Int64) : (mhX1 a).toInt = a.toInt / 2 ^ 32 := i64_shr _ _ (k := 32) (by decide)
theorem mhX2_toInt (a : Int64) : (mhX2 a).toInt = a.toInt % 2 ^ 32 := i64_mask _ _ (k := 32) (by decide) (by decide)
theorem i64_nat (x : Int64) : (x.toBitVec.toNat : Int) = x.toInt % 2 ^ 64 := by
  have h : x.toInt = x.toBitVec.toInt := rfl
  have hb := x.toBitVec.isLt
  rw [h, BitVec.toInt_eq_toNat_cond]
  by_cases hc : 2 * x.toBitVec.toNat < 2 ^ 64
  · rw [if_pos hc]; omega
  · rw [if_neg hc]; omega
theorem lushr_toInt (x : Int64) {n : UInt64} {k : Nat} (hn : n.toNat = k) (hk : k < 64) (h0 : 0 < k) : ((x.toUInt64 >>> n).toInt64).toInt = x.toInt % 2 ^ 64 / 2 ^ k := by
  have hb := x.toBitVec.isLt
  have e2 : ((x.toUInt64 >>> n).toInt64).toBitVec.toNat = x.toBitVec.toNat / 2 ^ k := by
    simp only [UInt64.toBitVec_toInt64, UInt64.toBitVec_shiftRight, Int64.toBitVec_toUInt64]
    simp [BitVec.toNat_ushiftRight, Nat.shiftRight_eq_div_pow, hn, Nat.mod_eq_of_lt hk]
  have h2 : 2 ≤ 2 ^ k := by
    calc 2 = 2 ^ 1 := rfl
      _ ≤ 2 ^ k := Nat.pow_le_pow_right (by decide) h0
  have hle : x.toBitVec.toNat / 2 ^ k ≤ x.toBitVec.toNat / 2 := Nat.div_le_div_left h2 (by decide)
  have e3 : ((x.toUInt64 >>> n).toInt64).toInt = ((x.toBitVec.toNat / 2 ^ k : Nat) : Int) := by
    have : ((x.toUInt64 >>> n).toInt64).toInt = ((x.toUInt64 >>> n).toInt64).toBitVec.toInt := rfl
    rw [this, BitVec.toInt_eq_toNat_cond, e2, if_pos (by omega)]
  rw [e3, Int.natCast_ediv, i64_nat, Int.natCast_pow]
  rfl
theorem hi_arith (S P Q R : Int) : (S * 18446744073709551616 + (P + Q) * 4294967296 + R) / 18446744073709551616 = S + (P + R / 4294967296) / 4294967296 + ((P + R / 4294967296) % 4294967296 + Q) / 4294967296 := by omega
theorem mulHi_toInt (a b : Int64) : (mulHi a b).toInt = a.toInt * b.toInt / 2 ^ 64 := by
  have a1 := a.toInt_lt
  have a2 := a.le_toInt
  have b1 := b.toInt_lt
  have b2 := b.le_toInt
  have x1 := mhX1_toInt a
  have x2 := mhX2_toInt a
  have y1 := mhX1_toInt b
  have y2 := mhX2_toInt b
  generalize hA1 : a.toInt / 2 ^ 32 = A1 at x1
  generalize hA2 : a.toInt % 2 ^ 32 = A2 at x2
  generalize hB1 : b.toInt / 2 ^ 32 = B1 at y1
  generalize hB2 : b.toInt % 2 ^ 32 = B2 at y2
  have ea : a.toInt = A1 * 4294967296 + A2 := by omega
  have eb : b.toInt = B1 * 4294967296 + B2 := by omega
  have bP := mul_bd (x := A1) (y := B2) (A := 2147483648) (B := 2147483647) (C := 4294967295) (by omega) (by omega) (by omega) (by omega) (by decide) (by decide)
  have bQ := mul_bd (x := B1) (y := A2) (A := 2147483648) (B := 2147483647) (C := 4294967295) (by omega) (by omega) (by omega) (by omega) (by decide) (by decide)
  have bR := mul_bd (x := A2) (y := B2) (A := 0) (B := 4294967295) (C := 4294967295) (by omega) (by omega) (by omega) (by omega) (by decide) (by decide)
  have bS : -4611686018427387904 ≤ A1 * B1 ∧ A1 * B1 ≤ 4611686018427387904 := by
    by_cases hb : 0 ≤ B1
    · have := mul_bd (x := A1) (y := B1) (A := 2147483648) (B := 2147483648) (C := 2147483648) (by omega) (by omega) hb (by omega) (by decide) (by decide)
      omega
    · have := mul_bd (x := A1) (y := -B1) (A := 2147483648) (B := 2147483648) (C := 2147483648) (by omega) (by omega) (by omega) (by omega) (by decide) (by decide)
      rw [Int.mul_neg] at this
      omega
  have z2 : (mhZ2 a b).toInt % 2 ^ 64 = A2 * B2 := by
    unfold mhZ2
    rw [Int64.toInt_mul, x2, y2]
    have := Int.bmod_emod (x := A2 * B2) (m := 2 ^ 64)
    have e : A2 * B2 % 2 ^ 64 = A2 * B2 := by omega
    omega
  have zs : (((mhZ2 a b).toUInt64 >>> ((32 : Int32) &&& 0x3f).toInt64.toUInt64).toInt64).toInt = A2 * B2 / 2 ^ 32 := by
    rw [lushr_toInt _ (k := 32) (by decide) (by decide) (by decide), z2]
  have hP : (mhX1 a * mhX2 b).toInt = A1 * B2 := by rw [i64_mul (by rw [x1, y2]; omega) (by rw [x1, y2]; omega), x1, y2]
  have hT : (mhT a b).toInt = A1 * B2 + A2 * B2 / 2 ^ 32 := by
    unfold mhT
    rw [i64_add (by rw [hP, zs]; omega) (by rw [hP, zs]; omega), hP, zs]
  have hTm : (mhT a b &&& (4294967295 : Int64)).toInt = (A1 * B2 + A2 * B2 / 2 ^ 32) % 2 ^ 32 := by rw [i64_mask _ _ (k := 32) (by decide) (by decide), hT]
  have hQ : (mhX2 a * mhX1 b).toInt = B1 * A2 := by rw [i64_mul (by rw [x2, y1, Int.mul_comm]; omega) (by rw [x2, y1, Int.mul_comm]; omega), x2, y1, Int.mul_comm]
  have hZ1 : (mhZ1 a b).toInt = (A1 * B2 + A2 * B2 / 2 ^ 32) % 2 ^ 32 + B1 * A2 := by
    unfold mhZ1
    rw [i64_add (by rw [hTm, hQ]; omega) (by rw [hTm, hQ]; omega), hTm, hQ]
  have hS : (mhX1 a * mhX1 b).toInt = A1 * B1 := by rw [i64_mul (by rw [x1, y1]; omega) (by rw [x1, y1]; omega), x1, y1]
  have hTs : (mhT a b >>> ((32 : Int32) &&& 0x3f).toInt64).toInt = (A1 * B2 + A2 * B2 / 2 ^ 32) / 2 ^ 32 := by rw [i64_shr _ _ (k := 32) (by decide), hT]
  have hZs : (mhZ1 a b >>> ((32 : Int32) &&& 0x3f).toInt64).toInt = ((A1 * B2 + A2 * B2 / 2 ^ 32) % 2 ^ 32 + B1 * A2) / 2 ^ 32 := by rw [i64_shr _ _ (k := 32) (by decide), hZ1]
  have hU : ((mhX1 a * mhX1 b) + (mhT a b >>> ((32 : Int32) &&& 0x3f).toInt64)).toInt = A1 * B1 + (A1 * B2 + A2 * B2 / 2 ^ 32) / 2 ^ 32 := by
    rw [i64_add (by rw [hS, hTs]; omega) (by rw [hS, hTs]; omega), hS, hTs]
  unfold mulHi
  rw [i64_add (by rw [hU, hZs]; omega) (by rw [hU, hZs]; omega), hU, hZs]
  have e : a.toInt * b.toInt = A1 * B1 * 18446744073709551616 + (A1 * B2 + B1 * A2) * 4294967296 + A2 * B2 := by
    rw [ea, eb]
    rw [Int.add_mul, Int.mul_add, Int.mul_add, Int.add_mul]
    rw [show A1 * 4294967296 * (B1 * 4294967296) = A1 * B1 * 18446744073709551616 by rw [show (18446744073709551616 : Int) = 4294967296 * 4294967296 from rfl]; ac_rfl, show A1 * 4294967296 * B2 = A1 * B2 * 4294967296 by rw [Int.mul_right_comm], show A2 * (B1 * 4294967296) = B1 * A2 * 4294967296 by rw [← Int.mul_assoc, Int.mul_comm A2 B1]]
    omega
  rw [e]
  exact (hi_arith (A1 * B1) (A1 * B2) (B1 * A2) (A2 * B2)).symm
theorem proF_eq (a b : Int64) : proF a b = if -2 ^ 63 ≤ a.toInt * b.toInt ∧ a.toInt * b.toInt < 2 ^ 63 then 1 else 0 := by
  unfold proF
  have h1 : ((a * b) >>> ((63 : Int32) &&& 0x3f).toInt64).toInt = (a * b).toInt / 2 ^ 63 := i64_shr _ _ (k := 63) (by decide)
  rw [Int64.toInt_mul, Int.bmod_def] at h1
  have h2 := mulHi_toInt a b
  generalize a.toInt * b.toInt = P at *
  by_cases h : -2 ^ 63 ≤ P ∧ P < 2 ^ 63
  · rw [if_pos h, if_pos]
    rw [lw_eq, ← Int64.toInt_inj, h1, h2]
    split at h1 <;> omega
  · rw [if_neg h, if_neg]
    rw [lw_eq, ← Int64.toInt_inj, h1, h2]
    split at h1 <;> omega
theorem proF_yes {a b : Int64} (h1 : -2 ^ 63 ≤ a.toInt * b.toInt) (h2 : a.toInt * b.toInt < 2 ^ 63) : ¬ proF a b = (0 : Int32) := by rw [proF_eq, if_pos ⟨h1, h2⟩]; decide
theorem proF_no {a b : Int64} (h : ¬ (-2 ^ 63 ≤ a.toInt * b.toInt ∧ a.toInt * b.toInt < 2 ^ 63)) : proF a b = (0 : Int32) := by rw [proF_eq, if_neg h]
theorem sumF_yes {a b : Int64} (h1 : -2 ^ 63 ≤ a.toInt + b.toInt) (h2 : a.toInt + b.toInt < 2 ^ 63) : ¬ sumF a b = (0 : Int32) := by
  have hs := i64_add h1 h2
  unfold sumF
  rw [if_neg]
  · decide
  · rw [lw_lt, Int64.lt_iff_toInt_lt, Int64.toInt_zero]
    have m : ∀ x : Int64, x.toBitVec.msb = decide (x.toInt < 0) := fun x => BitVec.msb_eq_toInt
    have k := m ((a ^^^ (a + b)) &&& (b ^^^ (a + b)))
    rw [Int64.toBitVec_and, Int64.toBitVec_xor, Int64.toBitVec_xor, BitVec.msb_and, BitVec.msb_xor, BitVec.msb_xor, m a, m b, m (a + b), hs] at k
    intro hlt
    rw [decide_eq_true hlt] at k
    by_cases q1 : a.toInt < 0 <;> by_cases q2 : b.toInt < 0 <;> by_cases q3 : a.toInt + b.toInt < 0 <;> simp [q1, q2, q3] at k <;> omega
theorem sigF_eq (a : Int64) : (sigF a).toInt = if a.toInt < 0 then -1 else if a.toInt = 0 then 0 else 1 := by
  have a1 := a.toInt_lt
  have a2 := a.le_toInt
  have h1 : (a >>> ((63 : Int32) &&& 0x3f).toInt64).toInt = a.toInt / 2 ^ 63 := i64_shr _ _ (k := 63) (by decide)
  have h2 : (((-a).toUInt64 >>> ((63 : Int32) &&& 0x3f).toInt64.toUInt64).toInt64).toInt = (-a).toInt % 2 ^ 64 / 2 ^ 63 := lushr_toInt _ (k := 63) (by decide) (by decide) (by decide)
  have h3 : (-a).toInt % 2 ^ 64 = -a.toInt % 2 ^ 64 := by rw [Int64.toInt_neg]; exact Int.bmod_emod
  rw [h3] at h2
  unfold sigF
  by_cases c1 : a.toInt < 0
  · rw [if_pos c1]
    have e1 : a >>> ((63 : Int32) &&& 0x3f).toInt64 = -1 := Int64.toInt_inj.mp (by rw [h1]; show _ = (-1 : Int); omega)
    have e2 : ((-a).toUInt64 >>> ((63 : Int32) &&& 0x3f).toInt64.toUInt64).toInt64 = 0 ∨ ((-a).toUInt64 >>> ((63 : Int32) &&& 0x3f).toInt64.toUInt64).toInt64 = 1 := by
      have : (((-a).toUInt64 >>> ((63 : Int32) &&& 0x3f).toInt64.toUInt64).toInt64).toInt = 0 ∨ (((-a).toUInt64 >>> ((63 : Int32) &&& 0x3f).toInt64.toUInt64).toInt64).toInt = 1 := by omega
      rcases this with h | h
      · exact Or.inl (Int64.toInt_inj.mp h)
      · exact Or.inr (Int64.toInt_inj.mp h)
    rcases e2 with e2 | e2 <;> rw [e1, e2] <;> decide
  · rw [if_neg c1]
    have e1 : a >>> ((63 : Int32) &&& 0x3f).toInt64 = 0 := Int64.toInt_inj.mp (by rw [h1]; show _ = (0 : Int); omega)
    by_cases c2 : a.toInt = 0
    · rw [if_pos c2]
      have e2 : ((-a).toUInt64 >>> ((63 : Int32) &&& 0x3f).toInt64.toUInt64).toInt64 = 0 := Int64.toInt_inj.mp (by rw [h2, c2]; rfl)
      rw [e1, e2]; decide
    · rw [if_neg c2]
      have e2 : ((-a).toUInt64 >>> ((63 : Int32) &&& 0x3f).toInt64.toUInt64).toInt64 = 1 := Int64.toInt_inj.mp (by rw [h2]; show _ = (1 : Int); omega)
      rw [e1, e2]; decide
theorem tsplit {A B d : Int} (hd : 0 < d) (h : (0 ≤ A ∧ 0 ≤ B) ∨ (A ≤ 0 ∧ B ≤ 0)) : (A * d + B).tdiv d = A + B.tdiv d ∧ (A * d + B).tmod d = B.tmod d := by
  have key : ∀ A B : Int, 0 ≤ A → 0 ≤ B → (A * d + B).tdiv d = A + B.tdiv d := by
    intro A B hA hB
    have h1 : 0 ≤ A * d := Int.mul_nonneg hA (by omega)
    rw [Int.tdiv_eq_ediv_of_nonneg (by omega), Int.tdiv_eq_ediv_of_nonneg hB, Int.add_comm (A * d), Int.add_mul_ediv_right _ _ (by omega), Int.add_comm]
  have e : (A * d + B).tdiv d = A + B.tdiv d := by
    rcases h with h | h
    · exact key A B h.1 h.2
    · have := key (-A) (-B) (by omega) (by omega)
      rw [Int.neg_mul, ← Int.neg_add, Int.neg_tdiv, Int.neg_tdiv] at this
      omega
  refine ⟨e, ?_⟩
  rw [Int.tmod_def, Int.tmod_def, e, Int.mul_add, Int.mul_comm d A]
  omega
theorem nat_mul_le {C w p : Int} (h : w.natAbs ≤ p.natAbs) : (C * w).natAbs ≤ (C * p).natAbs := by
  rw [Int.natAbs_mul, Int.natAbs_mul]; exact Nat.mul_le_mul_left _ h
/-- what the callee reckons with wholes and left over is what the law reckons at once -/
theorem bundle {ce per dv : Int64} (hd : 0 < dv.toInt) (hb : (ce.toInt * per.toInt).natAbs < 2 ^ 63) :
    (¬ proF ce (per / dv) = (0 : Int32)) ∧ (¬ proF ce (per % dv) = (0 : Int32)) ∧ remF ce (per % dv) dv = absL ((ce * per) % dv) ∧ (¬ sumF (ce * (per / dv)) ((ce * (per % dv)) / dv) = (0 : Int32)) ∧ (ce * (per / dv)) + ((ce * (per % dv)) / dv) = (ce * per) / dv := by
  have hw : (per / dv).toInt = per.toInt.tdiv dv.toInt := i64_div (by omega)
  have hf : (per % dv).toInt = per.toInt.tmod dv.toInt := Int64.toInt_mod _ _
  have nw : (per.toInt.tdiv dv.toInt).natAbs ≤ per.toInt.natAbs := by rw [Int.natAbs_tdiv]; exact Nat.div_le_self _ _
  have nf : (per.toInt.tmod dv.toInt).natAbs ≤ per.toInt.natAbs := by rw [Int.natAbs_tmod]; exact Nat.mod_le _ _
  have bw := nat_mul_le (C := ce.toInt) nw
  have bf := nat_mul_le (C := ce.toInt) nf
  have hn : ce.toInt * per.toInt = ce.toInt * per.toInt.tdiv dv.toInt * dv.toInt + ce.toInt * per.toInt.tmod dv.toInt := by
    rw [Int.mul_assoc, ← Int.mul_add]
    congr 1
    rw [Int.tmod_def, Int.mul_comm]
    omega
  have hs : (0 ≤ ce.toInt * per.toInt.tdiv dv.toInt ∧ 0 ≤ ce.toInt * per.toInt.tmod dv.toInt) ∨ (ce.toInt * per.toInt.tdiv dv.toInt ≤ 0 ∧ ce.toInt * per.toInt.tmod dv.toInt ≤ 0) := by
    by_cases hp : 0 ≤ per.toInt
    · have w1 : 0 ≤ per.toInt.tdiv dv.toInt := Int.tdiv_nonneg hp (by omega)
      have f1 : 0 ≤ per.toInt.tmod dv.toInt := Int.tmod_nonneg _ hp
      by_cases hc : 0 ≤ ce.toInt
      · exact Or.inl ⟨Int.mul_nonneg hc w1, Int.mul_nonneg hc f1⟩
      · exact Or.inr ⟨Int.mul_nonpos_of_nonpos_of_nonneg (by omega) w1, Int.mul_nonpos_of_nonpos_of_nonneg (by omega) f1⟩
    · have w1 : 0 ≤ (-per.toInt).tdiv dv.toInt := Int.tdiv_nonneg (by omega) (by omega)
      have f1 : 0 ≤ (-per.toInt).tmod dv.toInt := Int.tmod_nonneg _ (by omega)
      rw [Int.neg_tdiv] at w1
      rw [Int.neg_tmod] at f1
      by_cases hc : 0 ≤ ce.toInt
      · exact Or.inr ⟨Int.mul_nonpos_of_nonneg_of_nonpos hc (by omega), Int.mul_nonpos_of_nonneg_of_nonpos hc (by omega)⟩
      · exact Or.inl ⟨Int.mul_nonneg_of_nonpos_of_nonpos (by omega) (by omega), Int.mul_nonneg_of_nonpos_of_nonpos (by omega) (by omega)⟩
  have sp := tsplit hd hs
  rw [← hn] at sp
  have cw : (ce * (per / dv)).toInt = ce.toInt * per.toInt.tdiv dv.toInt := by rw [i64_mul (by rw [hw]; omega) (by rw [hw]; omega), hw]
  have cf : (ce * (per % dv)).toInt = ce.toInt * per.toInt.tmod dv.toInt := by rw [i64_mul (by rw [hf]; omega) (by rw [hf]; omega), hf]
  have cp : (ce * per).toInt = ce.toInt * per.toInt := i64_mul (by omega) (by omega)
  have q1 : ((ce * (per % dv)) / dv).toInt = (ce.toInt * per.toInt.tmod dv.toInt).tdiv dv.toInt := by rw [i64_div (by omega), cf]
  have q2 : ((ce * per) / dv).toInt = (ce.toInt * per.toInt).tdiv dv.toInt := by rw [i64_div (by omega), cp]
  have nq : ((ce.toInt * per.toInt).tdiv dv.toInt).natAbs ≤ (ce.toInt * per.toInt).natAbs := by rw [Int.natAbs_tdiv]; exact Nat.div_le_self _ _
  have s1 : (ce * (per / dv)).toInt + ((ce * (per % dv)) / dv).toInt = (ce.toInt * per.toInt).tdiv dv.toInt := by rw [cw, q1, sp.1]
  refine ⟨proF_yes (by rw [hw]; omega) (by rw [hw]; omega), proF_yes (by rw [hf]; omega) (by rw [hf]; omega), ?_, sumF_yes (by rw [s1]; omega) (by rw [s1]; omega), ?_⟩
  · unfold remF
    congr 1
    refine Int64.toInt_inj.mp ?_
    rw [Int64.toInt_mod, Int64.toInt_mod, cf, cp, sp.2]
  · refine Int64.toInt_inj.mp ?_
    rw [i64_add (by rw [s1]; omega) (by rw [s1]; omega), s1, q2]
theorem sig_pos {a : Int64} (h : 0 < a.toInt) : sigF a = 1 := Int32.toInt_inj.mp (by rw [sigF_eq, if_neg (by omega), if_neg (by omega)]; rfl)
theorem sig_neg {a : Int64} (h : a.toInt < 0) : sigF a = -1 := Int32.toInt_inj.mp (by rw [sigF_eq, if_pos h]; rfl)
theorem rup_pos {c per : Int64} (h : 0 < c.toInt * per.toInt) : rupF c per = 1 := by
  unfold rupF
  by_cases hc : 0 < c.toInt
  · have hp : 0 < per.toInt := by
      by_cases q : 0 < per.toInt
      · exact q
      · have := Int.mul_nonpos_of_nonneg_of_nonpos (show 0 ≤ c.toInt by omega) (show per.toInt ≤ 0 by omega); omega
    rw [sig_pos hc, sig_pos hp]; decide
  · have hc' : c.toInt < 0 := by
      by_cases q : c.toInt = 0
      · rw [q, Int.zero_mul] at h; omega
      · omega
    have hp : per.toInt < 0 := by
      by_cases q : per.toInt < 0
      · exact q
      · have := Int.mul_nonpos_of_nonpos_of_nonneg (show c.toInt ≤ 0 by omega) (show 0 ≤ per.toInt by omega); omega
    rw [sig_neg hc', sig_neg hp]; decide
theorem rup_neg {c per : Int64} (h : c.toInt * per.toInt < 0) : rupF c per = -1 := by
  unfold rupF
  by_cases hc : 0 < c.toInt
  · have hp : per.toInt < 0 := by
      by_cases q : per.toInt < 0
      · exact q
      · have := Int.mul_nonneg (show 0 ≤ c.toInt by omega) (show 0 ≤ per.toInt by omega); omega
    rw [sig_pos hc, sig_neg hp]; decide
  · have hc' : c.toInt < 0 := by
      by_cases q : c.toInt = 0
      · rw [q, Int.zero_mul] at h; omega
      · omega
    have hp : 0 < per.toInt := by
      by_cases q : 0 < per.toInt
      · exact q
      · have := Int.mul_nonneg_of_nonpos_of_nonpos (show c.toInt ≤ 0 by omega) (show per.toInt ≤ 0 by omega); omega
    rw [sig_neg hc', sig_pos hp]; decide
theorem divF_one (y : Int32) : divF y (1 : Int64) = y.toInt64 := Int64.mul_one _
theorem perF_one (a b : Int64) : perF a b (1 : Int64) = a * b := Int64.mul_one _
theorem pow_toInt : ∀ N, N < 19 → (powF N).toInt = ((10 ^ N : Nat) : Int) := by decide +kernel
theorem pow_pos' (N : Nat) : 0 < (10 ^ N : Nat) := Nat.pow_pos (by decide)
/-- the last part of a road: r is the law's remainder, q its quotient -/
theorem tail0 {ce per dv : Int64} (hd : 0 < dv.toInt) (hb : (ce.toInt * per.toInt).natAbs < 2 ^ 63) : (¬ sumF ((ce * per) / dv) (0 : Int64) = (0 : Int32)) ∧ lcmpW ((ce * per) / dv + (0 : Int64)) ((ce * per) / dv + (0 : Int64)) = (0 : Int32) := by
  refine ⟨sumF_yes ?_ ?_, (lw_eq _ _).mpr rfl⟩
  · have := ((ce * per) / dv).le_toInt; rw [Int64.toInt_zero]; omega
  · have := ((ce * per) / dv).toInt_lt; rw [Int64.toInt_zero]; omega
theorem tail1 {ce per dv u : Int64} (hd : 0 < dv.toInt) (hb : (ce.toInt * per.toInt).natAbs < 2 ^ 63) (hu : u.toInt = 1 ∨ u.toInt = -1) (hr : ¬ lcmpW (absL ((ce * per) % dv)) (dv - absL ((ce * per) % dv)) < (0 : Int32)) : (ce.toInt * per.toInt ≠ 0) ∧ ¬ sumF ((ce * per) / dv) u = (0 : Int32) := by
  have cp : (ce * per).toInt = ce.toInt * per.toInt := i64_mul (by omega) (by omega)
  have hm : ((ce * per) % dv).toInt = (ce.toInt * per.toInt).tmod dv.toInt := by rw [Int64.toInt_mod, cp]
  have hq : ((ce * per) / dv).toInt = (ce.toInt * per.toInt).tdiv dv.toInt := by rw [i64_div (by omega), cp]
  have nm : ((ce.toInt * per.toInt).tmod dv.toInt).natAbs = (ce.toInt * per.toInt).natAbs % dv.toInt.natAbs := Int.natAbs_tmod _ _
  have nq : ((ce.toInt * per.toInt).tdiv dv.toInt).natAbs = (ce.toInt * per.toInt).natAbs / dv.toInt.natAbs := Int.natAbs_tdiv _ _
  have hml : (ce.toInt * per.toInt).natAbs % dv.toInt.natAbs < dv.toInt.natAbs := Nat.mod_lt _ (by omega)
  have hle : (ce.toInt * per.toInt).natAbs % dv.toInt.natAbs ≤ (ce.toInt * per.toInt).natAbs := Nat.mod_le _ _
  have ha : (absL ((ce * per) % dv)).toInt = (((ce.toInt * per.toInt).natAbs % dv.toInt.natAbs : Nat) : Int) := by rw [absL_toInt (by rw [hm]; omega), hm, nm]
  have hdl := dv.toInt_lt
  rw [lw_lt, Int64.lt_iff_toInt_lt, i64_sub (by rw [ha]; omega) (by rw [ha]; omega), ha] at hr
  have hz : ce.toInt * per.toInt ≠ 0 := fun q => by rw [q] at hr; simp at hr; omega
  have h2 : 2 ≤ dv.toInt.natAbs := by
    by_cases q : dv.toInt = 1
    · rw [q] at hr; simp [Nat.mod_one] at hr
    · omega
  have hdiv : (ce.toInt * per.toInt).natAbs / dv.toInt.natAbs ≤ (ce.toInt * per.toInt).natAbs / 2 := Nat.div_le_div_left h2 (by decide)
  exact ⟨hz, sumF_yes (by rw [hq]; omega) (by rw [hq]; omega)⟩
end Plain

section Final
open Jvm.Kit
theorem rem24 (q : Int32) : -23 ≤ (q % (24 : Int32)).toInt ∧ (q % (24 : Int32)).toInt ≤ 23 := by
  rw [Int32.toInt_mod, show ((24 : Int32)).toInt = 24 from rfl]
  have n : (q.toInt.tmod 24).natAbs = q.toInt.natAbs % 24 := Int.natAbs_tmod _ _
  omega
theorem tL_toInt (pp ss : Int32) : (tL pp ss).toInt = (pp % (24 : Int32)).toInt - 4 - (ss % (24 : Int32)).toInt := by
  have hP := rem24 pp
  have hS := rem24 ss
  have e4 : ((4 : Int32)).toInt = 4 := rfl
  have h1 : ((pp % (24 : Int32)) - (4 : Int32)).toInt = (pp % (24 : Int32)).toInt - 4 := by rw [i32_sub (by rw [e4]; omega) (by rw [e4]; omega), e4]
  unfold tL
  rw [i32_sub (by rw [h1]; omega) (by rw [h1]; omega), h1]
theorem tA_eq (pp ss : Int32) : tA (pp % (24 : Int32)) (ss % (24 : Int32)) = tL pp ss := by
  have hP := rem24 pp
  have hS := rem24 ss
  have e2 : ((2 : Int32)).toInt = 2 := rfl
  refine Int32.toInt_inj.mp ?_
  rw [tL_toInt]
  have h1 : ((pp % (24 : Int32)) - (2 : Int32)).toInt = (pp % (24 : Int32)).toInt - 2 := by rw [i32_sub (by rw [e2]; omega) (by rw [e2]; omega), e2]
  have h2 : (((pp % (24 : Int32)) - (2 : Int32)) - (ss % (24 : Int32))).toInt = (pp % (24 : Int32)).toInt - 2 - (ss % (24 : Int32)).toInt := by rw [i32_sub (by rw [h1]; omega) (by rw [h1]; omega), h1]
  unfold tA
  rw [i32_sub (by rw [h2, e2]; omega) (by rw [h2, e2]; omega), h2, e2]
  omega
theorem yd_bd (y : Int32) : 1 ≤ (ydF y).toInt ∧ (ydF y).toInt ≤ 2147483647 := by
  have h : (y &&& (2147483647 : Int32)).toInt = y.toInt % 2 ^ 31 := i32_mask _ _ (k := 31) (by decide) (by decide)
  have e1 : ((1 : Int32)).toInt = 1 := rfl
  unfold ydF maxF
  by_cases q : (1 : Int32) < (y &&& (2147483647 : Int32))
  · rw [if_pos q]; rw [Int32.lt_iff_toInt_lt, e1] at q; omega
  · rw [if_neg q, e1]; omega
theorem rd_toInt (rate days : Int32) : (rdF rate days).toInt = rate.toInt * days.toInt ∧ (rate.toInt * days.toInt).natAbs ≤ 4611686018427387904 := by
  have r1 := rate.toInt_lt
  have r2 := rate.le_toInt
  have d1 := days.toInt_lt
  have d2 := days.le_toInt
  have nb : (rate.toInt * days.toInt).natAbs ≤ 4611686018427387904 := by
    rw [Int.natAbs_mul]
    exact Nat.mul_le_mul (show rate.toInt.natAbs ≤ 2147483648 by omega) (show days.toInt.natAbs ≤ 2147483648 by omega)
  refine ⟨?_, nb⟩
  unfold rdF
  rw [i64_mul (by rw [i64_of_i32, i64_of_i32]; omega) (by rw [i64_of_i32, i64_of_i32]; omega), i64_of_i32, i64_of_i32]
theorem cent_bd {c per : Int64} (h0 : per.toInt ≠ 0) (hp : per.toInt ≠ -2 ^ 63) : ¬ absL per = (0 : Int64) ∧ ¬ (9223372036854775807 : Int64) / absL per = (0 : Int64) ∧ ((centF c per).toInt * per.toInt).natAbs < 2 ^ 63 := by
  have ha := absL_toInt hp
  have p1 := per.toInt_lt
  have p2 := per.le_toInt
  have eM : ((9223372036854775807 : Int64)).toInt = 9223372036854775807 := rfl
  have hq : ((9223372036854775807 : Int64) / absL per).toInt = 9223372036854775807 / (per.toInt.natAbs : Int) := by
    rw [i64_div (by rw [ha]; omega), eM, ha, Int.tdiv_eq_ediv_of_nonneg (by decide)]
  have hq1 : 1 ≤ 9223372036854775807 / per.toInt.natAbs := Nat.div_pos (by omega) (by omega)
  have hq2 : 9223372036854775807 / per.toInt.natAbs * per.toInt.natAbs ≤ 9223372036854775807 := Nat.div_mul_le_self _ _
  have hq' : ((9223372036854775807 : Int64) / absL per).toInt = ((9223372036854775807 / per.toInt.natAbs : Nat) : Int) := by rw [hq, Int.natCast_ediv]; rfl
  refine ⟨fun q => ?_, fun q => ?_, ?_⟩
  · rw [q, Int64.toInt_zero] at ha; omega
  · rw [q, Int64.toInt_zero] at hq'; omega
  · unfold centF
    rw [Int64.toInt_mod, hq', Int.natAbs_mul, Int.natAbs_tmod, Int.natAbs_natCast]
    have l1 : c.toInt.natAbs % (9223372036854775807 / per.toInt.natAbs) < 9223372036854775807 / per.toInt.natAbs := Nat.mod_lt _ hq1
    have l2 := Nat.mul_le_mul_right per.toInt.natAbs (Nat.le_of_lt l1)
    exact Nat.lt_of_le_of_lt (Nat.le_trans l2 hq2) (by decide)
theorem min_min : lcmpW (-9223372036854775808 : Int64) (-9223372036854775808 : Int64) = (0 : Int32) := (lw_eq _ _).mpr rfl
theorem nz_of {a : Int64} (h : 0 < a.toInt) : ¬ a = (0 : Int64) := fun q => by rw [q, Int64.toInt_zero] at h; omega

set_option maxRecDepth 65536 in
set_option maxHeartbeats 40000000 in
theorem rm0 (l : Launch) (Z : State) (a0 : Array Value) (hw : ∀ d ∈ tables_1, d.before a0 Z = true) (ws : List Jvm.Cond) (cc : Int64) (rate : Int32) (days : Int32) (y : Int32) (pp : Int32) (ss : Int32)  (h0 : Heap) (n0 : Nat) (Z0 : n0 ≤ h0.size)   :
    MetFree l x (head1 (Jvm.Cond.code x code maxLocals ret :: ws) room_1) (fun aa U => aa = #[(.long cc), (.int rate), (.int days), (.int y), (.int pp), (.int ss)] ∧ Z.Warmed39 U.vm ∧ U.heap = h0) (fun _ _ _ _ _ => True) (fun _ U o U' => ∃ v L, o = .returned v ∧ Q0  h0 n0 v U'.heap L ∧ FrameEnd U o U' L room_1.cells room_1.slots) := by
  have htA := tA_eq pp ss
  have htI := tL_toInt pp ss
  have hP := rem24 pp
  have hS := rem24 ss
  have hyd := yd_bd y
  obtain ⟨hrd, hrb⟩ := rd_toInt rate days
  have hyL : (ydF y).toInt64.toInt = (ydF y).toInt := i64_of_i32 _
  have e18 : ((18 : Int32)).toInt = 18 := rfl
  have em18 : ((-18 : Int32)).toInt = -18 := rfl
  have e0 : ((0 : Int32)).toInt = 0 := rfl
  have e1L : ((1 : Int64)).toInt = 1 := rfl
  have eM : ((9223372036854775807 : Int64)).toInt = 9223372036854775807 := rfl
  have habs : (absI (tA (pp % (24 : Int32)) (ss % (24 : Int32)))).toInt = ((tL pp ss).toInt.natAbs : Int) := by rw [htA]; exact absI_toInt (by omega)
  by_cases hc174 : (18 : Int32) < tL pp ss
  · have fhc18 : (18 : Int32) < (absI (tA (pp % (24 : Int32)) (ss % (24 : Int32)))) := by rw [Int32.lt_iff_toInt_lt, e18] at hc174 ⊢; rw [habs]; omega
    have hc202 := min_min
    exact rm0_A1 l Z a0 hw ws cc rate days y pp ss h0 n0 Z0 hc174 fhc18 hc202
  by_cases hc181 : tL pp ss < (-18 : Int32)
  · have fhc18 : (18 : Int32) < (absI (tA (pp % (24 : Int32)) (ss % (24 : Int32)))) := by rw [Int32.lt_iff_toInt_lt, em18] at hc181; rw [Int32.lt_iff_toInt_lt, e18, habs]; omega
    have hc202 := min_min
    exact rm0_A2 l Z a0 hw ws cc rate days y pp ss h0 n0 Z0 hc174 hc181 fhc18 hc202
  have b174 := hc174
  have b181 := hc181
  rw [Int32.lt_iff_toInt_lt, e18] at b174
  rw [Int32.lt_iff_toInt_lt, em18] at b181
  obtain ⟨N, hNd⟩ : ∃ N : Nat, N = (tL pp ss).toInt.natAbs := ⟨_, rfl⟩
  have hj1 : N < 19 := by omega
  have hN1 : N < 100 := by omega
  have oN : (Int32.ofNat N).toInt = N := Int32.toInt_ofNat_small (by omega)
  have hN : absI (tA (pp % (24 : Int32)) (ss % (24 : Int32))) = Int32.ofNat N := Int32.toInt_inj.mp (by rw [habs, oN, hNd])
  have fhc18 : ¬ ((18 : Int32) < (absI (tA (pp % (24 : Int32)) (ss % (24 : Int32))))) := by rw [Int32.lt_iff_toInt_lt, e18, habs]; omega
  have hpw := pow_toInt N hj1
  have hpp := pow_pos' N
  have hpm : (10 ^ N : Nat) ≤ 10 ^ 18 := Nat.pow_le_pow_right (by decide) (by omega)
  have nzp : ¬ powF N = (0 : Int64) := nz_of (by rw [hpw]; omega)
  have fhc67 : ¬ ((proF (rate.toInt64) (days.toInt64)) = (0 : Int32)) := proF_yes (by rw [i64_of_i32, i64_of_i32]; omega) (by rw [i64_of_i32, i64_of_i32]; omega)
  have hMd : ((9223372036854775807 : Int64) / powF N).toInt = ((9223372036854775807 / 10 ^ N : Nat) : Int) := by rw [i64_div (by rw [hpw]; omega), eM, hpw, Int.tdiv_eq_ediv_of_nonneg (by decide), Int.natCast_ediv]; rfl
  have ediv1 := divF_one (ydF y)
  have eper1 : perF rate.toInt64 days.toInt64 (1 : Int64) = rdF rate days := perF_one _ _
  have rdm : (rdF rate days).toInt ≠ -2 ^ 63 := by omega
  have habsrd := absL_toInt rdm
  by_cases hc220 : (0 : Int32) < tL pp ss
  · have b220 := hc220
    rw [Int32.lt_iff_toInt_lt, e0] at b220
    have hj : tL pp ss = Int32.ofNat N := Int32.toInt_inj.mp (by rw [oN]; omega)
    have fhc37 : (0 : Int32) < (tA (pp % (24 : Int32)) (ss % (24 : Int32))) := by rw [htA]; exact hc220
    have fhc50 := fhc37
    have hnz235 := nzp
    by_cases hc237 : (0 : Int32) < (lcmpW (absL (rdF rate days)) ((9223372036854775807 : Int64) / (powF N)))
    · have b237 := hc237
      rw [lw_gt, Int64.lt_iff_toInt_lt, habsrd, hMd, hrd] at b237
      have hbig : 9223372036854775807 < (rate.toInt * days.toInt).natAbs * 10 ^ N := by
        have := Nat.lt_mul_of_div_lt (show 9223372036854775807 / 10 ^ N < (rate.toInt * days.toInt).natAbs by omega) hpp
        rw [Nat.mul_comm]; exact Nat.mul_comm _ _ ▸ this
      have hten : ∃ K : Int, ((10 ^ N : Nat) : Int) = 10 * K := ⟨((10 ^ (N - 1) : Nat) : Int), by rw [show N = N - 1 + 1 by omega, Nat.pow_succ]; push_cast; rw [Int.mul_comm]⟩
      have fhc79 : (proF ((rate.toInt64) * (days.toInt64)) (powF N)) = (0 : Int32) := proF_no (by
        rw [show (rate.toInt64 * days.toInt64).toInt = rate.toInt * days.toInt from hrd, hpw]
        have hnn : (rate.toInt * days.toInt * ((10 ^ N : Nat) : Int)).natAbs = (rate.toInt * days.toInt).natAbs * 10 ^ N := by rw [Int.natAbs_mul, Int.natAbs_natCast]
        obtain ⟨K, hK⟩ := hten
        have hdv : rate.toInt * days.toInt * ((10 ^ N : Nat) : Int) = 10 * (rate.toInt * days.toInt * K) := by rw [hK, Int.mul_left_comm]
        omega)
      have hc258 := min_min
      exact rm0_B l Z a0 hw ws cc rate days y pp ss N h0 n0 Z0 hj hj1 hc174 hc181 hc220 hnz235 hc237 hN hN1 fhc18 fhc37 fhc50 fhc67 fhc79 hc258
    have b237 := hc237
    rw [lw_gt, Int64.lt_iff_toInt_lt, habsrd, hMd, hrd] at b237
    have hfit : (rate.toInt * days.toInt).natAbs * 10 ^ N ≤ 9223372036854775807 := Nat.le_trans (Nat.mul_le_mul_right _ (show (rate.toInt * days.toInt).natAbs ≤ 9223372036854775807 / 10 ^ N by omega)) (Nat.div_mul_le_self _ _)
    have hnn : (rate.toInt * days.toInt * ((10 ^ N : Nat) : Int)).natAbs = (rate.toInt * days.toInt).natAbs * 10 ^ N := by rw [Int.natAbs_mul, Int.natAbs_natCast]
    have fhc79 : ¬ ((proF ((rate.toInt64) * (days.toInt64)) (powF N)) = (0 : Int32)) := proF_yes (by rw [show (rate.toInt64 * days.toInt64).toInt = rate.toInt * days.toInt from hrd, hpw]; omega) (by rw [show (rate.toInt64 * days.toInt64).toInt = rate.toInt * days.toInt from hrd, hpw]; omega)
    have fhc90 : ¬ ((proF ((ydF y).toInt64) (1 : Int64)) = (0 : Int32)) := proF_yes (by rw [hyL, e1L]; omega) (by rw [hyL, e1L]; omega)
    have hpe : (perF rate.toInt64 days.toInt64 (powF N)).toInt = rate.toInt * days.toInt * ((10 ^ N : Nat) : Int) := by
      unfold perF
      rw [i64_mul (by rw [show (rate.toInt64 * days.toInt64).toInt = rate.toInt * days.toInt from hrd, hpw]; omega) (by rw [show (rate.toInt64 * days.toInt64).toInt = rate.toInt * days.toInt from hrd, hpw]; omega), show (rate.toInt64 * days.toInt64).toInt = rate.toInt * days.toInt from hrd, hpw]
    have hpm' : (perF rate.toInt64 days.toInt64 (powF N)).toInt ≠ -2 ^ 63 := by omega
    have hd : 0 < ((ydF y).toInt64).toInt := by rw [hyL]; omega
    have hnz381 : ¬ (((ydF y).toInt64) = (0 : Int64)) := nz_of hd
    have hnz388 := hnz381
    have fhnz118 : ¬ ((divF (ydF y) (1 : Int64)) = (0 : Int64)) := by rw [ediv1]; exact hnz381
    have fhnz125 := fhnz118
    have fhnz162 := fhnz118
    have fhnz171 := fhnz118
    by_cases hc351 : (lcmpW (perF rate.toInt64 days.toInt64 (powF N)) (0 : Int64)) = (0 : Int32)
    · have hz : (perF rate.toInt64 days.toInt64 (powF N)).toInt = 0 := by have q := (lw_eq _ _).mp hc351; rw [q]; rfl
      have hb : (cc.toInt * (perF rate.toInt64 days.toInt64 (powF N)).toInt).natAbs < 2 ^ 63 := by rw [hz, Int.mul_zero]; decide
      obtain ⟨m1, m2, m3, m4, m5⟩ := bundle (ce := cc) (per := (perF rate.toInt64 days.toInt64 (powF N))) (dv := ((ydF y).toInt64)) hd hb
      have fhc134 : ¬ ((proF cc ((perF (rate.toInt64) (days.toInt64) (powF N)) / (divF (ydF y) (1 : Int64)))) = (0 : Int32)) := by rw [ediv1]; exact m1
      have fhc143 : ¬ ((proF cc ((perF (rate.toInt64) (days.toInt64) (powF N)) % (divF (ydF y) (1 : Int64)))) = (0 : Int32)) := by rw [ediv1]; exact m2
      have fhc212 : ¬ ((sumF (cc * ((perF (rate.toInt64) (days.toInt64) (powF N)) / (divF (ydF y) (1 : Int64)))) ((cc * ((perF (rate.toInt64) (days.toInt64) (powF N)) % (divF (ydF y) (1 : Int64)))) / (divF (ydF y) (1 : Int64)))) = (0 : Int32)) := by rw [ediv1]; exact m4
      have hc402 : (lcmpW (absL ((cc * (perF rate.toInt64 days.toInt64 (powF N))) % ((ydF y).toInt64))) (((ydF y).toInt64) - (absL ((cc * (perF rate.toInt64 days.toInt64 (powF N))) % ((ydF y).toInt64))))) < (0 : Int32) := by
        refine Classical.byContradiction fun q => ?_
        exact (tail1 (u := 1) hd hb (Or.inl rfl) q).1 (by rw [hz, Int.mul_zero])
      have t2 := (tail0 hd hb).1
      have fhc185 : (lcmpW (remF cc ((perF (rate.toInt64) (days.toInt64) (powF N)) % (divF (ydF y) (1 : Int64))) (divF (ydF y) (1 : Int64))) ((divF (ydF y) (1 : Int64)) - (remF cc ((perF (rate.toInt64) (days.toInt64) (powF N)) % (divF (ydF y) (1 : Int64))) (divF (ydF y) (1 : Int64))))) < (0 : Int32) := by rw [ediv1, m3]; exact hc402
      have fhc225 : ¬ ((sumF ((cc * ((perF (rate.toInt64) (days.toInt64) (powF N)) / (divF (ydF y) (1 : Int64)))) + ((cc * ((perF (rate.toInt64) (days.toInt64) (powF N)) % (divF (ydF y) (1 : Int64)))) / (divF (ydF y) (1 : Int64)))) (0 : Int64)) = (0 : Int32)) := by rw [ediv1, m5]; exact t2
      have hc450 : (lcmpW (sum3 (cc * ((perF (rate.toInt64) (days.toInt64) (powF N)) / (divF (ydF y) (1 : Int64)))) ((cc * ((perF (rate.toInt64) (days.toInt64) (powF N)) % (divF (ydF y) (1 : Int64)))) / (divF (ydF y) (1 : Int64))) (0 : Int64)) (((cc * (perF rate.toInt64 days.toInt64 (powF N))) / ((ydF y).toInt64)) + (0 : Int64))) = (0 : Int32) := by unfold sum3; rw [ediv1, m5]; exact (lw_eq _ _).mpr rfl
      exact rm0_Pz l Z a0 hw ws cc rate days y pp ss N h0 n0 Z0 hj hj1 hc174 hc181 hc220 hnz235 hc237 hc351 hnz381 hnz388 hc402 hN hN1 fhc18 fhc37 fhc50 fhc67 fhc79 fhc90 fhnz118 fhnz125 fhc134 fhc143 fhnz162 fhnz171 fhc185 fhc212 fhc225 hc450
    have hp0 : (perF rate.toInt64 days.toInt64 (powF N)).toInt ≠ 0 := fun z => hc351 ((lw_eq _ _).mpr (Int64.toInt_inj.mp (by rw [z]; rfl)))
    obtain ⟨hnz366, hnz367, hb⟩ := cent_bd (c := cc) hp0 hpm'
    obtain ⟨m1, m2, m3, m4, m5⟩ := bundle (ce := (centF cc (perF rate.toInt64 days.toInt64 (powF N)))) (per := (perF rate.toInt64 days.toInt64 (powF N))) (dv := ((ydF y).toInt64)) hd hb
    have fhc134 : ¬ ((proF (centF cc (perF rate.toInt64 days.toInt64 (powF N))) ((perF (rate.toInt64) (days.toInt64) (powF N)) / (divF (ydF y) (1 : Int64)))) = (0 : Int32)) := by rw [ediv1]; exact m1
    have fhc143 : ¬ ((proF (centF cc (perF rate.toInt64 days.toInt64 (powF N))) ((perF (rate.toInt64) (days.toInt64) (powF N)) % (divF (ydF y) (1 : Int64)))) = (0 : Int32)) := by rw [ediv1]; exact m2
    have fhc212 : ¬ ((sumF ((centF cc (perF rate.toInt64 days.toInt64 (powF N))) * ((perF (rate.toInt64) (days.toInt64) (powF N)) / (divF (ydF y) (1 : Int64)))) (((centF cc (perF rate.toInt64 days.toInt64 (powF N))) * ((perF (rate.toInt64) (days.toInt64) (powF N)) % (divF (ydF y) (1 : Int64)))) / (divF (ydF y) (1 : Int64)))) = (0 : Int32)) := by rw [ediv1]; exact m4
    by_cases hc402 : (lcmpW (absL (((centF cc (perF rate.toInt64 days.toInt64 (powF N))) * (perF rate.toInt64 days.toInt64 (powF N))) % ((ydF y).toInt64))) (((ydF y).toInt64) - (absL (((centF cc (perF rate.toInt64 days.toInt64 (powF N))) * (perF rate.toInt64 days.toInt64 (powF N))) % ((ydF y).toInt64))))) < (0 : Int32)
    · have t2 := (tail0 hd hb).1
      have fhc185 : (lcmpW (remF (centF cc (perF rate.toInt64 days.toInt64 (powF N))) ((perF (rate.toInt64) (days.toInt64) (powF N)) % (divF (ydF y) (1 : Int64))) (divF (ydF y) (1 : Int64))) ((divF (ydF y) (1 : Int64)) - (remF (centF cc (perF rate.toInt64 days.toInt64 (powF N))) ((perF (rate.toInt64) (days.toInt64) (powF N)) % (divF (ydF y) (1 : Int64))) (divF (ydF y) (1 : Int64))))) < (0 : Int32) := by rw [ediv1, m3]; exact hc402
      have fhc225 : ¬ ((sumF (((centF cc (perF rate.toInt64 days.toInt64 (powF N))) * ((perF (rate.toInt64) (days.toInt64) (powF N)) / (divF (ydF y) (1 : Int64)))) + (((centF cc (perF rate.toInt64 days.toInt64 (powF N))) * ((perF (rate.toInt64) (days.toInt64) (powF N)) % (divF (ydF y) (1 : Int64)))) / (divF (ydF y) (1 : Int64)))) (0 : Int64)) = (0 : Int32)) := by rw [ediv1, m5]; exact t2
      have hc450 : (lcmpW (sum3 ((centF cc (perF rate.toInt64 days.toInt64 (powF N))) * ((perF (rate.toInt64) (days.toInt64) (powF N)) / (divF (ydF y) (1 : Int64)))) (((centF cc (perF rate.toInt64 days.toInt64 (powF N))) * ((perF (rate.toInt64) (days.toInt64) (powF N)) % (divF (ydF y) (1 : Int64)))) / (divF (ydF y) (1 : Int64))) (0 : Int64)) ((((centF cc (perF rate.toInt64 days.toInt64 (powF N))) * (perF rate.toInt64 days.toInt64 (powF N))) / ((ydF y).toInt64)) + (0 : Int64))) = (0 : Int32) := by unfold sum3; rw [ediv1, m5]; exact (lw_eq _ _).mpr rfl
      exact rm0_P0 l Z a0 hw ws cc rate days y pp ss N h0 n0 Z0 hj hj1 hc174 hc181 hc220 hnz235 hc237 hc351 hnz366 hnz367 hnz381 hnz388 hc402 hN hN1 fhc18 fhc37 fhc50 fhc67 fhc79 fhc90 fhnz118 fhnz125 fhc134 fhc143 fhnz162 fhnz171 fhc185 fhc212 fhc225 hc450
    have hcp : ((centF cc (perF rate.toInt64 days.toInt64 (powF N))) * (perF rate.toInt64 days.toInt64 (powF N))).toInt = (centF cc (perF rate.toInt64 days.toInt64 (powF N))).toInt * (perF rate.toInt64 days.toInt64 (powF N)).toInt := i64_mul (by omega) (by omega)
    by_cases hc409 : (0 : Int32) < (lcmpW ((centF cc (perF rate.toInt64 days.toInt64 (powF N))) * (perF rate.toInt64 days.toInt64 (powF N))) (0 : Int64))
    · have hu : rupF (centF cc (perF rate.toInt64 days.toInt64 (powF N))) (perF rate.toInt64 days.toInt64 (powF N)) = 1 := rup_pos (by rw [lw_gt, Int64.lt_iff_toInt_lt, Int64.toInt_zero, hcp] at hc409; exact hc409)
      have t2 := (tail1 (u := 1) hd hb (Or.inl rfl) hc402).2
      have fhc185 : ¬ ((lcmpW (remF (centF cc (perF rate.toInt64 days.toInt64 (powF N))) ((perF (rate.toInt64) (days.toInt64) (powF N)) % (divF (ydF y) (1 : Int64))) (divF (ydF y) (1 : Int64))) ((divF (ydF y) (1 : Int64)) - (remF (centF cc (perF rate.toInt64 days.toInt64 (powF N))) ((perF (rate.toInt64) (days.toInt64) (powF N)) % (divF (ydF y) (1 : Int64))) (divF (ydF y) (1 : Int64))))) < (0 : Int32)) := by rw [ediv1, m3]; exact hc402
      have fhc225 : ¬ ((sumF (((centF cc (perF rate.toInt64 days.toInt64 (powF N))) * ((perF (rate.toInt64) (days.toInt64) (powF N)) / (divF (ydF y) (1 : Int64)))) + (((centF cc (perF rate.toInt64 days.toInt64 (powF N))) * ((perF (rate.toInt64) (days.toInt64) (powF N)) % (divF (ydF y) (1 : Int64)))) / (divF (ydF y) (1 : Int64)))) (rupF (centF cc (perF rate.toInt64 days.toInt64 (powF N))) (perF (rate.toInt64) (days.toInt64) (powF N)))) = (0 : Int32)) := by rw [ediv1, m5, hu]; exact t2
      have hc450 : (lcmpW (sum3 ((centF cc (perF rate.toInt64 days.toInt64 (powF N))) * ((perF (rate.toInt64) (days.toInt64) (powF N)) / (divF (ydF y) (1 : Int64)))) (((centF cc (perF rate.toInt64 days.toInt64 (powF N))) * ((perF (rate.toInt64) (days.toInt64) (powF N)) % (divF (ydF y) (1 : Int64)))) / (divF (ydF y) (1 : Int64))) (rupF (centF cc (perF rate.toInt64 days.toInt64 (powF N))) (perF (rate.toInt64) (days.toInt64) (powF N)))) ((((centF cc (perF rate.toInt64 days.toInt64 (powF N))) * (perF rate.toInt64 days.toInt64 (powF N))) / ((ydF y).toInt64)) + (1 : Int64))) = (0 : Int32) := by unfold sum3; rw [ediv1, m5, hu]; exact (lw_eq _ _).mpr rfl
      exact rm0_P1 l Z a0 hw ws cc rate days y pp ss N h0 n0 Z0 hj hj1 hc174 hc181 hc220 hnz235 hc237 hc351 hnz366 hnz367 hnz381 hnz388 hc402 hc409 hN hN1 fhc18 fhc37 fhc50 fhc67 fhc79 fhc90 fhnz118 fhnz125 fhc134 fhc143 fhnz162 fhnz171 fhc185 fhc212 fhc225 hc450
    have hu : rupF (centF cc (perF rate.toInt64 days.toInt64 (powF N))) (perF rate.toInt64 days.toInt64 (powF N)) = -1 := rup_neg (by
      rw [lw_gt, Int64.lt_iff_toInt_lt, Int64.toInt_zero, hcp] at hc409
      have := (tail1 (u := 1) hd hb (Or.inl rfl) hc402).1
      omega)
    have t2 := (tail1 (u := -1) hd hb (Or.inr rfl) hc402).2
    have fhc185 : ¬ ((lcmpW (remF (centF cc (perF rate.toInt64 days.toInt64 (powF N))) ((perF (rate.toInt64) (days.toInt64) (powF N)) % (divF (ydF y) (1 : Int64))) (divF (ydF y) (1 : Int64))) ((divF (ydF y) (1 : Int64)) - (remF (centF cc (perF rate.toInt64 days.toInt64 (powF N))) ((perF (rate.toInt64) (days.toInt64) (powF N)) % (divF (ydF y) (1 : Int64))) (divF (ydF y) (1 : Int64))))) < (0 : Int32)) := by rw [ediv1, m3]; exact hc402
    have fhc225 : ¬ ((sumF (((centF cc (perF rate.toInt64 days.toInt64 (powF N))) * ((perF (rate.toInt64) (days.toInt64) (powF N)) / (divF (ydF y) (1 : Int64)))) + (((centF cc (perF rate.toInt64 days.toInt64 (powF N))) * ((perF (rate.toInt64) (days.toInt64) (powF N)) % (divF (ydF y) (1 : Int64)))) / (divF (ydF y) (1 : Int64)))) (rupF (centF cc (perF rate.toInt64 days.toInt64 (powF N))) (perF (rate.toInt64) (days.toInt64) (powF N)))) = (0 : Int32)) := by rw [ediv1, m5, hu]; exact t2
    have hc450 : (lcmpW (sum3 ((centF cc (perF rate.toInt64 days.toInt64 (powF N))) * ((perF (rate.toInt64) (days.toInt64) (powF N)) / (divF (ydF y) (1 : Int64)))) (((centF cc (perF rate.toInt64 days.toInt64 (powF N))) * ((perF (rate.toInt64) (days.toInt64) (powF N)) % (divF (ydF y) (1 : Int64)))) / (divF (ydF y) (1 : Int64))) (rupF (centF cc (perF rate.toInt64 days.toInt64 (powF N))) (perF (rate.toInt64) (days.toInt64) (powF N)))) ((((centF cc (perF rate.toInt64 days.toInt64 (powF N))) * (perF rate.toInt64 days.toInt64 (powF N))) / ((ydF y).toInt64)) + (-1 : Int64))) = (0 : Int32) := by unfold sum3; rw [ediv1, m5, hu]; exact (lw_eq _ _).mpr rfl
    exact rm0_P2 l Z a0 hw ws cc rate days y pp ss N h0 n0 Z0 hj hj1 hc174 hc181 hc220 hnz235 hc237 hc351 hnz366 hnz367 hnz381 hnz388 hc402 hc409 hN hN1 fhc18 fhc37 fhc50 fhc67 fhc79 fhc90 fhnz118 fhnz125 fhc134 fhc143 fhnz162 fhnz171 fhc185 fhc212 fhc225 hc450
  · have b220 := hc220
    rw [Int32.lt_iff_toInt_lt, e0] at b220
    have hj : -(tL pp ss) = Int32.ofNat N := Int32.toInt_inj.mp (by rw [i32_neg (by omega), oN]; omega)
    have fhc37 : ¬ ((0 : Int32) < (tA (pp % (24 : Int32)) (ss % (24 : Int32)))) := by rw [htA]; exact hc220
    have fhc50 := fhc37
    have hnz300 := nzp
    have fhc79 : ¬ ((proF ((rate.toInt64) * (days.toInt64)) (1 : Int64)) = (0 : Int32)) := proF_yes (by rw [show (rate.toInt64 * days.toInt64).toInt = rate.toInt * days.toInt from hrd, e1L]; omega) (by rw [show (rate.toInt64 * days.toInt64).toInt = rate.toInt * days.toInt from hrd, e1L]; omega)
    have hyn : ((ydF y).toInt * ((10 ^ N : Nat) : Int)).natAbs = (ydF y).toInt.natAbs * 10 ^ N := by rw [Int.natAbs_mul, Int.natAbs_natCast]
    have hy0 : 0 < (ydF y).toInt * ((10 ^ N : Nat) : Int) := Int.mul_pos (by omega) (by omega)
    by_cases hc302 : (0 : Int32) < (lcmpW ((ydF y).toInt64) ((9223372036854775807 : Int64) / (powF N)))
    · have b302 := hc302
      rw [lw_gt, Int64.lt_iff_toInt_lt, hMd, hyL] at b302
      have hbig : 9223372036854775807 < (ydF y).toInt.natAbs * 10 ^ N := by
        have := Nat.lt_mul_of_div_lt (show 9223372036854775807 / 10 ^ N < (ydF y).toInt.natAbs by omega) hpp
        exact Nat.mul_comm _ _ ▸ this
      have fhc90 : (proF ((ydF y).toInt64) (powF N)) = (0 : Int32) := proF_no (by rw [hyL, hpw]; omega)
      have hc323 := min_min
      exact rm0_C l Z a0 hw ws cc rate days y pp ss N h0 n0 Z0 hj hj1 hc174 hc181 hc220 hnz300 hc302 hN hN1 fhc18 fhc37 fhc50 fhc67 fhc79 fhc90 hc323
    have b302 := hc302
    rw [lw_gt, Int64.lt_iff_toInt_lt, hMd, hyL] at b302
    have hfit : (ydF y).toInt.natAbs * 10 ^ N ≤ 9223372036854775807 := Nat.le_trans (Nat.mul_le_mul_right _ (show (ydF y).toInt.natAbs ≤ 9223372036854775807 / 10 ^ N by omega)) (Nat.div_mul_le_self _ _)
    have fhc90 : ¬ ((proF ((ydF y).toInt64) (powF N)) = (0 : Int32)) := proF_yes (by rw [hyL, hpw]; omega) (by rw [hyL, hpw]; omega)
    have hd : 0 < (divF (ydF y) (powF N)).toInt := by
      unfold divF
      rw [i64_mul (by rw [hyL, hpw]; omega) (by rw [hyL, hpw]; omega), hyL, hpw]; exact hy0
    have hpm' : (rdF rate days).toInt ≠ -2 ^ 63 := rdm
    have hnz381 : ¬ ((divF (ydF y) (powF N)) = (0 : Int64)) := nz_of hd
    have hnz388 := hnz381
    have fhnz118 : ¬ ((divF (ydF y) (powF N)) = (0 : Int64)) := hnz381
    have fhnz125 := fhnz118
    have fhnz162 := fhnz118
    have fhnz171 := fhnz118
    by_cases hc351 : (lcmpW (rdF rate days) (0 : Int64)) = (0 : Int32)
    · have hz : (rdF rate days).toInt = 0 := by have q := (lw_eq _ _).mp hc351; rw [q]; rfl
      have hb : (cc.toInt * (rdF rate days).toInt).natAbs < 2 ^ 63 := by rw [hz, Int.mul_zero]; decide
      obtain ⟨m1, m2, m3, m4, m5⟩ := bundle (ce := cc) (per := (rdF rate days)) (dv := (divF (ydF y) (powF N))) hd hb
      have fhc134 : ¬ ((proF cc ((perF (rate.toInt64) (days.toInt64) (1 : Int64)) / (divF (ydF y) (powF N)))) = (0 : Int32)) := by rw [eper1]; exact m1
      have fhc143 : ¬ ((proF cc ((perF (rate.toInt64) (days.toInt64) (1 : Int64)) % (divF (ydF y) (powF N)))) = (0 : Int32)) := by rw [eper1]; exact m2
      have fhc212 : ¬ ((sumF (cc * ((perF (rate.toInt64) (days.toInt64) (1 : Int64)) / (divF (ydF y) (powF N)))) ((cc * ((perF (rate.toInt64) (days.toInt64) (1 : Int64)) % (divF (ydF y) (powF N)))) / (divF (ydF y) (powF N)))) = (0 : Int32)) := by rw [eper1]; exact m4
      have hc402 : (lcmpW (absL ((cc * (rdF rate days)) % (divF (ydF y) (powF N)))) ((divF (ydF y) (powF N)) - (absL ((cc * (rdF rate days)) % (divF (ydF y) (powF N)))))) < (0 : Int32) := by
        refine Classical.byContradiction fun q => ?_
        exact (tail1 (u := 1) hd hb (Or.inl rfl) q).1 (by rw [hz, Int.mul_zero])
      have t2 := (tail0 hd hb).1
      have fhc185 : (lcmpW (remF cc ((perF (rate.toInt64) (days.toInt64) (1 : Int64)) % (divF (ydF y) (powF N))) (divF (ydF y) (powF N))) ((divF (ydF y) (powF N)) - (remF cc ((perF (rate.toInt64) (days.toInt64) (1 : Int64)) % (divF (ydF y) (powF N))) (divF (ydF y) (powF N))))) < (0 : Int32) := by rw [eper1, m3]; exact hc402
      have fhc225 : ¬ ((sumF ((cc * ((perF (rate.toInt64) (days.toInt64) (1 : Int64)) / (divF (ydF y) (powF N)))) + ((cc * ((perF (rate.toInt64) (days.toInt64) (1 : Int64)) % (divF (ydF y) (powF N)))) / (divF (ydF y) (powF N)))) (0 : Int64)) = (0 : Int32)) := by rw [eper1, m5]; exact t2
      have hc450 : (lcmpW (sum3 (cc * ((perF (rate.toInt64) (days.toInt64) (1 : Int64)) / (divF (ydF y) (powF N)))) ((cc * ((perF (rate.toInt64) (days.toInt64) (1 : Int64)) % (divF (ydF y) (powF N)))) / (divF (ydF y) (powF N))) (0 : Int64)) (((cc * (rdF rate days)) / (divF (ydF y) (powF N))) + (0 : Int64))) = (0 : Int32) := by unfold sum3; rw [eper1, m5]; exact (lw_eq _ _).mpr rfl
      exact rm0_Nz l Z a0 hw ws cc rate days y pp ss N h0 n0 Z0 hj hj1 hc174 hc181 hc220 hnz300 hc302 hc351 hnz381 hnz388 hc402 hN hN1 fhc18 fhc37 fhc50 fhc67 fhc79 fhc90 fhnz118 fhnz125 fhc134 fhc143 fhnz162 fhnz171 fhc185 fhc212 fhc225 hc450
    have hp0 : (rdF rate days).toInt ≠ 0 := fun z => hc351 ((lw_eq _ _).mpr (Int64.toInt_inj.mp (by rw [z]; rfl)))
    obtain ⟨hnz366, hnz367, hb⟩ := cent_bd (c := cc) hp0 hpm'
    obtain ⟨m1, m2, m3, m4, m5⟩ := bundle (ce := (centF cc (rdF rate days))) (per := (rdF rate days)) (dv := (divF (ydF y) (powF N))) hd hb
    have fhc134 : ¬ ((proF (centF cc (rdF rate days)) ((perF (rate.toInt64) (days.toInt64) (1 : Int64)) / (divF (ydF y) (powF N)))) = (0 : Int32)) := by rw [eper1]; exact m1
    have fhc143 : ¬ ((proF (centF cc (rdF rate days)) ((perF (rate.toInt64) (days.toInt64) (1 : Int64)) % (divF (ydF y) (powF N)))) = (0 : Int32)) := by rw [eper1]; exact m2
    have fhc212 : ¬ ((sumF ((centF cc (rdF rate days)) * ((perF (rate.toInt64) (days.toInt64) (1 : Int64)) / (divF (ydF y) (powF N)))) (((centF cc (rdF rate days)) * ((perF (rate.toInt64) (days.toInt64) (1 : Int64)) % (divF (ydF y) (powF N)))) / (divF (ydF y) (powF N)))) = (0 : Int32)) := by rw [eper1]; exact m4
    by_cases hc402 : (lcmpW (absL (((centF cc (rdF rate days)) * (rdF rate days)) % (divF (ydF y) (powF N)))) ((divF (ydF y) (powF N)) - (absL (((centF cc (rdF rate days)) * (rdF rate days)) % (divF (ydF y) (powF N)))))) < (0 : Int32)
    · have t2 := (tail0 hd hb).1
      have fhc185 : (lcmpW (remF (centF cc (rdF rate days)) ((perF (rate.toInt64) (days.toInt64) (1 : Int64)) % (divF (ydF y) (powF N))) (divF (ydF y) (powF N))) ((divF (ydF y) (powF N)) - (remF (centF cc (rdF rate days)) ((perF (rate.toInt64) (days.toInt64) (1 : Int64)) % (divF (ydF y) (powF N))) (divF (ydF y) (powF N))))) < (0 : Int32) := by rw [eper1, m3]; exact hc402
      have fhc225 : ¬ ((sumF (((centF cc (rdF rate days)) * ((perF (rate.toInt64) (days.toInt64) (1 : Int64)) / (divF (ydF y) (powF N)))) + (((centF cc (rdF rate days)) * ((perF (rate.toInt64) (days.toInt64) (1 : Int64)) % (divF (ydF y) (powF N)))) / (divF (ydF y) (powF N)))) (0 : Int64)) = (0 : Int32)) := by rw [eper1, m5]; exact t2
      have hc450 : (lcmpW (sum3 ((centF cc (rdF rate days)) * ((perF (rate.toInt64) (days.toInt64) (1 : Int64)) / (divF (ydF y) (powF N)))) (((centF cc (rdF rate days)) * ((perF (rate.toInt64) (days.toInt64) (1 : Int64)) % (divF (ydF y) (powF N)))) / (divF (ydF y) (powF N))) (0 : Int64)) ((((centF cc (rdF rate days)) * (rdF rate days)) / (divF (ydF y) (powF N))) + (0 : Int64))) = (0 : Int32) := by unfold sum3; rw [eper1, m5]; exact (lw_eq _ _).mpr rfl
      exact rm0_N0 l Z a0 hw ws cc rate days y pp ss N h0 n0 Z0 hj hj1 hc174 hc181 hc220 hnz300 hc302 hc351 hnz366 hnz367 hnz381 hnz388 hc402 hN hN1 fhc18 fhc37 fhc50 fhc67 fhc79 fhc90 fhnz118 fhnz125 fhc134 fhc143 fhnz162 fhnz171 fhc185 fhc212 fhc225 hc450
    have hcp : ((centF cc (rdF rate days)) * (rdF rate days)).toInt = (centF cc (rdF rate days)).toInt * (rdF rate days).toInt := i64_mul (by omega) (by omega)
    by_cases hc409 : (0 : Int32) < (lcmpW ((centF cc (rdF rate days)) * (rdF rate days)) (0 : Int64))
    · have hu : rupF (centF cc (rdF rate days)) (rdF rate days) = 1 := rup_pos (by rw [lw_gt, Int64.lt_iff_toInt_lt, Int64.toInt_zero, hcp] at hc409; exact hc409)
      have t2 := (tail1 (u := 1) hd hb (Or.inl rfl) hc402).2
      have fhc185 : ¬ ((lcmpW (remF (centF cc (rdF rate days)) ((perF (rate.toInt64) (days.toInt64) (1 : Int64)) % (divF (ydF y) (powF N))) (divF (ydF y) (powF N))) ((divF (ydF y) (powF N)) - (remF (centF cc (rdF rate days)) ((perF (rate.toInt64) (days.toInt64) (1 : Int64)) % (divF (ydF y) (powF N))) (divF (ydF y) (powF N))))) < (0 : Int32)) := by rw [eper1, m3]; exact hc402
      have fhc225 : ¬ ((sumF (((centF cc (rdF rate days)) * ((perF (rate.toInt64) (days.toInt64) (1 : Int64)) / (divF (ydF y) (powF N)))) + (((centF cc (rdF rate days)) * ((perF (rate.toInt64) (days.toInt64) (1 : Int64)) % (divF (ydF y) (powF N)))) / (divF (ydF y) (powF N)))) (rupF (centF cc (rdF rate days)) (perF (rate.toInt64) (days.toInt64) (1 : Int64)))) = (0 : Int32)) := by rw [eper1, m5, hu]; exact t2
      have hc450 : (lcmpW (sum3 ((centF cc (rdF rate days)) * ((perF (rate.toInt64) (days.toInt64) (1 : Int64)) / (divF (ydF y) (powF N)))) (((centF cc (rdF rate days)) * ((perF (rate.toInt64) (days.toInt64) (1 : Int64)) % (divF (ydF y) (powF N)))) / (divF (ydF y) (powF N))) (rupF (centF cc (rdF rate days)) (perF (rate.toInt64) (days.toInt64) (1 : Int64)))) ((((centF cc (rdF rate days)) * (rdF rate days)) / (divF (ydF y) (powF N))) + (1 : Int64))) = (0 : Int32) := by unfold sum3; rw [eper1, m5, hu]; exact (lw_eq _ _).mpr rfl
      exact rm0_N1 l Z a0 hw ws cc rate days y pp ss N h0 n0 Z0 hj hj1 hc174 hc181 hc220 hnz300 hc302 hc351 hnz366 hnz367 hnz381 hnz388 hc402 hc409 hN hN1 fhc18 fhc37 fhc50 fhc67 fhc79 fhc90 fhnz118 fhnz125 fhc134 fhc143 fhnz162 fhnz171 fhc185 fhc212 fhc225 hc450
    have hu : rupF (centF cc (rdF rate days)) (rdF rate days) = -1 := rup_neg (by
      rw [lw_gt, Int64.lt_iff_toInt_lt, Int64.toInt_zero, hcp] at hc409
      have := (tail1 (u := 1) hd hb (Or.inl rfl) hc402).1
      omega)
    have t2 := (tail1 (u := -1) hd hb (Or.inr rfl) hc402).2
    have fhc185 : ¬ ((lcmpW (remF (centF cc (rdF rate days)) ((perF (rate.toInt64) (days.toInt64) (1 : Int64)) % (divF (ydF y) (powF N))) (divF (ydF y) (powF N))) ((divF (ydF y) (powF N)) - (remF (centF cc (rdF rate days)) ((perF (rate.toInt64) (days.toInt64) (1 : Int64)) % (divF (ydF y) (powF N))) (divF (ydF y) (powF N))))) < (0 : Int32)) := by rw [eper1, m3]; exact hc402
    have fhc225 : ¬ ((sumF (((centF cc (rdF rate days)) * ((perF (rate.toInt64) (days.toInt64) (1 : Int64)) / (divF (ydF y) (powF N)))) + (((centF cc (rdF rate days)) * ((perF (rate.toInt64) (days.toInt64) (1 : Int64)) % (divF (ydF y) (powF N)))) / (divF (ydF y) (powF N)))) (rupF (centF cc (rdF rate days)) (perF (rate.toInt64) (days.toInt64) (1 : Int64)))) = (0 : Int32)) := by rw [eper1, m5, hu]; exact t2
    have hc450 : (lcmpW (sum3 ((centF cc (rdF rate days)) * ((perF (rate.toInt64) (days.toInt64) (1 : Int64)) / (divF (ydF y) (powF N)))) (((centF cc (rdF rate days)) * ((perF (rate.toInt64) (days.toInt64) (1 : Int64)) % (divF (ydF y) (powF N)))) / (divF (ydF y) (powF N))) (rupF (centF cc (rdF rate days)) (perF (rate.toInt64) (days.toInt64) (1 : Int64)))) ((((centF cc (rdF rate days)) * (rdF rate days)) / (divF (ydF y) (powF N))) + (-1 : Int64))) = (0 : Int32) := by unfold sum3; rw [eper1, m5, hu]; exact (lw_eq _ _).mpr rfl
    exact rm0_N2 l Z a0 hw ws cc rate days y pp ss N h0 n0 Z0 hj hj1 hc174 hc181 hc220 hnz300 hc302 hc351 hnz366 hnz367 hnz381 hnz388 hc402 hc409 hN hN1 fhc18 fhc37 fhc50 fhc67 fhc79 fhc90 fhnz118 fhnz125 fhc134 fhc143 fhnz162 fhnz171 fhc185 fhc212 fhc225 hc450
end Final
set_option maxRecDepth 65536 in
set_option maxHeartbeats 40000000 in
theorem comes_1 {Post : Tables → Env → Array Value → State → Outcome → State → Prop} (hpost : ∀ tb e args s v u, (limb_1_1.after args s (.returned v) u = true ∧ limb_1_2.after args s (.returned v) u = true ∧ True) → FrameEnd s (.returned v) u (Jvm.fieldLocs frame_1_writes args s ++ Jvm.arrayLocs frame_1_arrays args s ++ Jvm.staticLocs frame_1_statics s) 16 128 → Post tb e args s (.returned v) u) :
    ArmFor flags0 classFile x code maxLocals ret World_1 tables_1 room_1 Calls_1 rest_1 Pre_1 Post := by
  intro l hfl _ _ p e ha hc hk s m args below hf hA hF happ hP
  obtain ⟨hcalls, hrest, hpre⟩ := hP
  obtain ⟨-, -, -, hnamed, -, -, -, hat⟩ := (Spec.applies_iff hf).mp happ
  obtain ⟨hg, hn⟩ := and_e (Cond.before_iff.mp (show (Jvm.Cond.and given_1 narrow_1).before args s = true from hpre))
  obtain ⟨hcount, hg0⟩ := and_e hg
  obtain ⟨ha0, hg1⟩ := and_e hg0
  obtain ⟨ha1, hg2⟩ := and_e hg1
  obtain ⟨ha2, hg3⟩ := and_e hg2
  obtain ⟨ha3, hg4⟩ := and_e hg3
  obtain ⟨ha4, hg5⟩ := and_e hg4
  have ha5 := hg5
  obtain ⟨w0, w1, w2, w3, w4, w5, rfl⟩ : ∃ w0 w1 w2 w3 w4 w5 : Value, args = #[w0, w1, w2, w3, w4, w5] := by
    have hs : args.size = 6 := by simpa [Cond.value, given_1] using hcount
    obtain ⟨L⟩ := args
    match L, hs with
    | [w0, w1, w2, w3, w4, w5], _ => exact ⟨w0, w1, w2, w3, w4, w5, rfl⟩
  have hw := fun d (hd : d ∈ tables_1) => atoms_spec (ws := Jvm.Cond.code x code maxLocals ret :: tables_1) hat d (List.mem_cons_of_mem _ hd)
  have hfit : Fit s := fun {y c} hc i hi => by
    obtain ⟨ha, rfl⟩ := Array.getElem?_eq_some_iff.mp hc
    have q := List.all_eq_true.mp ((Array.all_eq_true_iff_forall_mem.mp hF) _ (Array.getElem_mem ha)) i (List.mem_range.mpr hi)
    simpa [Array.getElem?_eq_getElem hi] using q
  obtain ⟨i0, ei0⟩ := isL_v ha0
  obtain rfl : w0 = (.long i0) := Option.some.inj ei0
  obtain ⟨i1, ei1⟩ := is_v ha1
  obtain rfl : w1 = (.int i1) := Option.some.inj ei1
  obtain ⟨i2, ei2⟩ := is_v ha2
  obtain rfl : w2 = (.int i2) := Option.some.inj ei2
  obtain ⟨i3, ei3⟩ := is_v ha3
  obtain rfl : w3 = (.int i3) := Option.some.inj ei3
  obtain ⟨i4, ei4⟩ := is_v ha4
  obtain rfl : w4 = (.int i4) := Option.some.inj ei4
  obtain ⟨i5, ei5⟩ := is_v ha5
  obtain rfl : w5 = (.int i5) := Option.some.inj ei5
  obtain ⟨n, o, h1, h2, h3, _, L, rfl, ⟨rfl, N⟩, hq⟩ := rm0 l s _ hw tables_1 i0 i1 i2 i3 i4 i5 s.heap s.heap.size (Nat.le_refl _)  p e ha hc hk s m _ below hf ((Spec.applies_iff_loose hf).mp happ).1 ⟨rfl, State.Warmed39.refl s, rfl⟩ trivial
  refine ⟨n, _, h1, h2, h3, hpost _ _ _ _ _ _ ⟨Cond.after_iff.mpr rfl, Cond.after_iff.mpr (eq_i res_at (Term.int_eval (1)) rfl), trivial⟩ ⟨hq.1, hq.2.1, (hq.2.2.sift fun y hy => Or.inr (N y hy)).mono (by decide) (by decide)⟩⟩
theorem main_1_1 : Claimed_1_1 := comes_1 fun _ _ _ _ _ _ h hF => ⟨h.1, hF⟩
theorem main_1_2 : Claimed_1_2 := comes_1 fun _ _ _ _ _ _ h hF => ⟨h.2.1, hF⟩
end Jvm.Pilot.@@N@@
namespace Jvm.Pilot.@@N@@
open Jvm Jvm.ClassFile Sem Op Lib Jvm.Free Jvm.Stand Jvm.Pilot.@@N@@.Jvm.D
/-! MADE BY PROGRAM (witnessworld.py) out of the Statement's table words and the real class files: 17 classes; the members and pool entries that the words name. The judged class is class 1, her method 1. -/
namespace start1
open Jvm.ClassFile
def u (s : String) : CpInfo := .utf8 (stringToUtf16 s)
/-- a pool by its gaps: so many unusable entries, then the entry; so many at the end -/
def gap : Nat → List CpInfo → List CpInfo
  | 0, r => r
  | n + 1, r => .unusable :: gap n r
def poolList (es : List (Nat × CpInfo)) (last : Nat) : List CpInfo := es.foldr (fun e r => gap e.1 (e.2 :: r)) (gap last [])
def pool (es : List (Nat × CpInfo)) (last : Nat) : Array CpInfo := ⟨poolList es last⟩
def fileOf (pool : Array CpInfo) (this : Nat) (attrs : Array Attribute := #[]) (ms : Array MethodInfo := #[]) (fl : Nat := 33) (sup : Nat := 0) (ifs : Array Nat := #[]) (fds : Array FieldInfo := #[]) : ClassFile where
  minorVersion := 0
  majorVersion := 65
  constantPool := pool
  accessFlags := fl
  thisClass := this
  superClass := sup
  interfaces := ifs
  fields := fds
  methods := ms
  attributes := attrs
def plain (name : String) (sup : Option ClassId) : Class where
  name := name
  kind := .ordinary
  loader := none
  accessFlags := 33
  super := sup
  interfaces := #[]
  cf := none
  fields := #[]
  methods := #[]
  instanceTypes := #[]
  staticTypes := #[]
  resolved := #[]
  callSites := []
  init := .initialized
  statics := none
  mirror := none

def pool0 : Array CpInfo := pool [(5, u "<init>"), (0, u "()V"), (1, .class_ 10), (1, u "java/lang/Object")] 113

def k0m0 : Method := { name := "<init>", desc := "()V", sig := { parameters := [], returnType := none }, accessFlags := 1, code := none }
/-- java/lang/Object -/
def k0 : Class := { plain "java/lang/Object" none with
  accessFlags := 33
  interfaces := #[]
  cf := some (fileOf pool0 8 #[] #[{ accessFlags := 1, nameIndex := 5, descriptorIndex := 6, attributes := #[] }] 33 0 #[] #[])
  fields := #[]
  methods := #[k0m0]
  instanceTypes := #[]
  staticTypes := #[]
  resolved := Array.replicate 124 none
  statics := none }

def pool1 : Array CpInfo := pool [(2, .class_ 4), (1, u "java/lang/Object"), (0, u "<init>"), (0, u "()V"), (0, .long 10), (1, .long 100), (1, .long 1000), (1, .long 10000), (1, .long 100000), (1, .long 1000000), (1, .long 10000000), (1, .long 100000000), (1, .long 1000000000), (1, .long 10000000000), (1, .long 100000000000), (1, .long 1000000000000), (1, .long 10000000000000), (1, .long 100000000000000), (1, .long 1000000000000000), (1, .long 10000000000000000), (1, .long 100000000000000000), (1, .long 1000000000000000000), (1, .long 9223372036854775807), (1, .integer 2147483647), (0, .methodref 47 48), (0, .class_ 49), (0, .nameAndType 50 51), (0, u "java/lang/Math"), (0, u "max"), (0, u "(II)I"), (0, .methodref 53 54), (0, .class_ 55), (0, .nameAndType 56 57), (0, u "com/example/syndicata/syndicata/Accrual"), (0, u "accruedUnits"), (0, u "(JJIJII)J"), (0, .long 9223372036854775808), (1, .methodref 47 61), (0, .nameAndType 62 63), (0, u "abs"), (0, u "(J)J"), (0, .long 18446744073709551615), (1, .class_ 67), (0, u "com/example/syndicata/syndicata/AccrualAccruedUnitsPinLaw"), (2, u "law"), (0, u "(JIIIII)Z")] 5

def k1m0 : Method := { name := "<init>", desc := "()V", sig := { parameters := [], returnType := none }, accessFlags := 1, code := none }
def k1c1 : Code := { maxStack := 9, maxLocals := 32, code := code, exceptionTable := #[], attributes := #[] }
def k1m1 : Method := { name := "law", desc := "(JIIIII)Z", sig := { parameters := [.long, .int, .int, .int, .int, .int], returnType := some .boolean }, accessFlags := 9, code := some k1c1 }
/-- com/example/syndicata/syndicata/AccrualAccruedUnitsPinLaw -/
def k1 : Class := { plain "com/example/syndicata/syndicata/AccrualAccruedUnitsPinLaw" (some 0) with
  accessFlags := 49
  interfaces := #[]
  cf := some (fileOf pool1 66 #[] #[{ accessFlags := 1, nameIndex := 5, descriptorIndex := 6, attributes := #[] }, { accessFlags := 9, nameIndex := 70, descriptorIndex := 71, attributes := #[] }] 49 2 #[] #[])
  fields := #[]
  methods := #[k1m0, k1m1]
  instanceTypes := #[]
  staticTypes := #[]
  resolved := Array.replicate 77 none
  statics := none }

def pool2 : Array CpInfo := pool [(1, .class_ 2), (0, u "java/lang/Math"), (1, .class_ 6), (1, u "java/lang/Object"), (0, u "<init>"), (0, u "()V"), (89, .class_ 100), (1, u "java/lang/Math$RandomNumberGeneratorHolder"), (20, u "(JJ)J"), (2, u "abs"), (0, u "(J)J"), (12, .long 4294967295), (3, u "multiplyHigh"), (16, u "(I)I"), (12, u "negativeZeroFloatBits"), (0, u "J"), (2, u "negativeZeroDoubleBits"), (21, u "max"), (46, u "$assertionsDisabled"), (0, u "Z"), (88, u "(II)I"), (2, u "twoToTheDoubleScaleDown"), (0, u "D"), (4, u "twoToTheDoubleScaleUp"), (9, u "E"), (3, u "PI"), (2, u "TAU"), (2, u "DEGREES_TO_RADIANS"), (0, u "RADIANS_TO_DEGREES")] 94

def k2m0 : Method := { name := "<init>", desc := "()V", sig := { parameters := [], returnType := none }, accessFlags := 2, code := none }
def k2c1 : Code := { maxStack := 6, maxLocals := 20, code := jdk_29_method_45_code, exceptionTable := #[], attributes := #[] }
def k2m1 : Method := { name := "multiplyHigh", desc := "(JJ)J", sig := { parameters := [.long, .long], returnType := some .long }, accessFlags := 9, code := some k2c1 }
def k2c2 : Code := { maxStack := 1, maxLocals := 1, code := jdk_29_method_59_code, exceptionTable := #[], attributes := #[] }
def k2m2 : Method := { name := "abs", desc := "(I)I", sig := { parameters := [.int], returnType := some .int }, accessFlags := 9, code := some k2c2 }
def k2c3 : Code := { maxStack := 4, maxLocals := 2, code := jdk_29_method_61_code, exceptionTable := #[], attributes := #[] }
def k2m3 : Method := { name := "abs", desc := "(J)J", sig := { parameters := [.long], returnType := some .long }, accessFlags := 9, code := some k2c3 }
def k2c4 : Code := { maxStack := 2, maxLocals := 2, code := jdk_29_method_65_code, exceptionTable := #[], attributes := #[] }
def k2m4 : Method := { name := "max", desc := "(II)I", sig := { parameters := [.int, .int], returnType := some .int }, accessFlags := 9, code := some k2c4 }
/-- java/lang/Math -/
def k2 : Class := { plain "java/lang/Math" (some 0) with
  accessFlags := 49
  interfaces := #[]
  cf := some (fileOf pool2 1 #[.nestMembers #[98]] #[{ accessFlags := 2, nameIndex := 7, descriptorIndex := 8, attributes := #[] }, { accessFlags := 9, nameIndex := 142, descriptorIndex := 121, attributes := #[] }, { accessFlags := 9, nameIndex := 124, descriptorIndex := 159, attributes := #[] }, { accessFlags := 9, nameIndex := 124, descriptorIndex := 125, attributes := #[] }, { accessFlags := 9, nameIndex := 198, descriptorIndex := 335, attributes := #[] }] 49 4 #[] #[{ accessFlags := 25, nameIndex := 354, descriptorIndex := 339, attributes := #[] }, { accessFlags := 25, nameIndex := 358, descriptorIndex := 339, attributes := #[] }, { accessFlags := 25, nameIndex := 361, descriptorIndex := 339, attributes := #[] }, { accessFlags := 26, nameIndex := 364, descriptorIndex := 339, attributes := #[] }, { accessFlags := 26, nameIndex := 365, descriptorIndex := 339, attributes := #[] }, { accessFlags := 26, nameIndex := 172, descriptorIndex := 173, attributes := #[] }, { accessFlags := 26, nameIndex := 176, descriptorIndex := 173, attributes := #[] }, { accessFlags := 8, nameIndex := 344, descriptorIndex := 339, attributes := #[] }, { accessFlags := 8, nameIndex := 338, descriptorIndex := 339, attributes := #[] }, { accessFlags := 4120, nameIndex := 245, descriptorIndex := 246, attributes := #[] }])
  fields := #[{ name := "E", type := .double, accessFlags := 25, slot := 0, constantValue := 0 }, { name := "PI", type := .double, accessFlags := 25, slot := 1, constantValue := 0 }, { name := "TAU", type := .double, accessFlags := 25, slot := 2, constantValue := 0 }, { name := "DEGREES_TO_RADIANS", type := .double, accessFlags := 26, slot := 3, constantValue := 0 }, { name := "RADIANS_TO_DEGREES", type := .double, accessFlags := 26, slot := 4, constantValue := 0 }, { name := "negativeZeroFloatBits", type := .long, accessFlags := 26, slot := 5, constantValue := 0 }, { name := "negativeZeroDoubleBits", type := .long, accessFlags := 26, slot := 6, constantValue := 0 }, { name := "twoToTheDoubleScaleUp", type := .double, accessFlags := 8, slot := 7, constantValue := 0 }, { name := "twoToTheDoubleScaleDown", type := .double, accessFlags := 8, slot := 8, constantValue := 0 }, { name := "$assertionsDisabled", type := .boolean, accessFlags := 4120, slot := 9, constantValue := 0 }]
  methods := #[k2m0, k2m1, k2m2, k2m3, k2m4]
  instanceTypes := #[]
  staticTypes := #[.double, .double, .double, .double, .double, .long, .long, .double, .double, .boolean]
  resolved := Array.replicate 460 none
  statics := none }

def pool3 : Array CpInfo := pool [(1, .class_ 2), (0, u "java/lang/Long"), (1, .class_ 6), (1, u "java/lang/Object"), (3, .class_ 12), (1, u "com/example/syndicata/syndicata/Accrual"), (0, u "NO_YEAR_LENGTHS"), (0, u "[I"), (2, u "yearLengths"), (2, u "NO_SUMS"), (0, u "[Ljava/math/BigDecimal;"), (2, u "amountRateDays"), (2, u "basis"), (0, u "Lcom/example/syndicata/syndicata/DayBasis;"), (91, .methodref 121 122), (0, .class_ 123), (0, .nameAndType 124 125), (0, u "java/lang/Math"), (0, u "abs"), (0, u "(I)I"), (0, .long 9223372036854775808), (1, .methodref 10 129), (0, .nameAndType 130 131), (0, u "powerOfTen"), (0, u "(I)J"), (0, .methodref 10 133), (0, .nameAndType 134 135), (0, u "productFits"), (0, u "(JJ)Z"), (0, .methodref 121 137), (0, .nameAndType 124 138), (0, u "(J)J"), (0, .methodref 1 140), (0, .nameAndType 141 142), (0, u "signum"), (0, u "(J)I"), (0, .methodref 10 144), (0, .nameAndType 145 135), (0, u "sumFits"), (17, u "(JJ)J"), (0, .methodref 121 165), (0, .nameAndType 166 163), (0, u "multiplyHigh"), (0, .long 10), (1, u "PERCENT_SCALE"), (0, u "I"), (2, u "DOES_NOT_FIT"), (0, u "J"), (0, u "LONGEST_POWER_OF_TEN"), (12, u "accruedUnits"), (0, u "(JJIJII)J")] 6

def k3c0 : Code := { maxStack := 6, maxLocals := 32, code := prog_1_method_9_code, exceptionTable := #[], attributes := #[] }
def k3m0 : Method := { name := "accruedUnits", desc := "(JJIJII)J", sig := { parameters := [.long, .long, .int, .long, .int, .int], returnType := some .long }, accessFlags := 8, code := some k3c0 }
def k3c1 : Code := { maxStack := 6, maxLocals := 4, code := prog_1_method_12_code, exceptionTable := #[], attributes := #[] }
def k3m1 : Method := { name := "productFits", desc := "(JJ)Z", sig := { parameters := [.long, .long], returnType := some .boolean }, accessFlags := 10, code := some k3c1 }
def k3c2 : Code := { maxStack := 6, maxLocals := 6, code := prog_1_method_13_code, exceptionTable := #[], attributes := #[] }
def k3m2 : Method := { name := "sumFits", desc := "(JJ)Z", sig := { parameters := [.long, .long], returnType := some .boolean }, accessFlags := 10, code := some k3c2 }
def k3c3 : Code := { maxStack := 4, maxLocals := 4, code := prog_1_method_14_code, exceptionTable := #[], attributes := #[] }
def k3m3 : Method := { name := "powerOfTen", desc := "(I)J", sig := { parameters := [.int], returnType := some .long }, accessFlags := 10, code := some k3c3 }
/-- com/example/syndicata/syndicata/Accrual -/
def k3 : Class := { plain "com/example/syndicata/syndicata/Accrual" (some 0) with
  accessFlags := 48
  interfaces := #[]
  cf := some (fileOf pool3 10 #[] #[{ accessFlags := 8, nameIndex := 188, descriptorIndex := 189, attributes := #[] }, { accessFlags := 10, nameIndex := 134, descriptorIndex := 135, attributes := #[] }, { accessFlags := 10, nameIndex := 145, descriptorIndex := 135, attributes := #[] }, { accessFlags := 10, nameIndex := 130, descriptorIndex := 131, attributes := #[] }] 48 4 #[] #[{ accessFlags := 26, nameIndex := 169, descriptorIndex := 170, attributes := #[] }, { accessFlags := 24, nameIndex := 173, descriptorIndex := 174, attributes := #[] }, { accessFlags := 26, nameIndex := 175, descriptorIndex := 170, attributes := #[] }, { accessFlags := 26, nameIndex := 13, descriptorIndex := 14, attributes := #[] }, { accessFlags := 26, nameIndex := 20, descriptorIndex := 21, attributes := #[] }, { accessFlags := 18, nameIndex := 27, descriptorIndex := 28, attributes := #[] }, { accessFlags := 2, nameIndex := 17, descriptorIndex := 14, attributes := #[] }, { accessFlags := 2, nameIndex := 24, descriptorIndex := 21, attributes := #[] }])
  fields := #[{ name := "PERCENT_SCALE", type := .int, accessFlags := 26, slot := 0, constantValue := 0 }, { name := "DOES_NOT_FIT", type := .long, accessFlags := 24, slot := 1, constantValue := 0 }, { name := "LONGEST_POWER_OF_TEN", type := .int, accessFlags := 26, slot := 2, constantValue := 0 }, { name := "NO_YEAR_LENGTHS", type := (.array .int), accessFlags := 26, slot := 3, constantValue := 0 }, { name := "NO_SUMS", type := (.array (.object "java/math/BigDecimal")), accessFlags := 26, slot := 4, constantValue := 0 }, { name := "basis", type := (.object "com/example/syndicata/syndicata/DayBasis"), accessFlags := 18, slot := 0, constantValue := 0 }, { name := "yearLengths", type := (.array .int), accessFlags := 2, slot := 1, constantValue := 0 }, { name := "amountRateDays", type := (.array (.object "java/math/BigDecimal")), accessFlags := 2, slot := 2, constantValue := 0 }]
  methods := #[k3m0, k3m1, k3m2, k3m3]
  instanceTypes := #[(.object "com/example/syndicata/syndicata/DayBasis"), (.array .int), (.array (.object "java/math/BigDecimal"))]
  staticTypes := #[.int, .long, .int, (.array .int), (.array (.object "java/math/BigDecimal"))]
  resolved := Array.replicate 196 none
  statics := none }

def pool4 : Array CpInfo := pool [(1, .class_ 2), (0, u "java/io/Serializable"), (0, .class_ 4), (0, u "java/lang/Object")] 2

/-- java/io/Serializable -/
def k4 : Class := { plain "java/io/Serializable" (some 0) with
  accessFlags := 1537
  interfaces := #[]
  cf := some (fileOf pool4 1 #[] #[] 1537 3 #[] #[])
  fields := #[]
  methods := #[]
  instanceTypes := #[]
  staticTypes := #[]
  resolved := Array.replicate 7 none
  statics := none }

def pool5 : Array CpInfo := pool [(2, .class_ 4), (1, u "java/lang/Object"), (0, u "<init>"), (0, u "()V"), (1, .class_ 10), (1, u "java/lang/Number"), (2, .class_ 14), (0, u "java/io/Serializable"), (0, u "serialVersionUID"), (0, u "J")] 20

def k5m0 : Method := { name := "<init>", desc := "()V", sig := { parameters := [], returnType := none }, accessFlags := 1, code := none }
/-- java/lang/Number -/
def k5 : Class := { plain "java/lang/Number" (some 0) with
  accessFlags := 1057
  interfaces := #[4]
  cf := some (fileOf pool5 8 #[] #[{ accessFlags := 1, nameIndex := 5, descriptorIndex := 6, attributes := #[] }] 1057 2 #[13] #[{ accessFlags := 26, nameIndex := 15, descriptorIndex := 16, attributes := #[] }])
  fields := #[{ name := "serialVersionUID", type := .long, accessFlags := 26, slot := 0, constantValue := 0 }]
  methods := #[k5m0]
  instanceTypes := #[]
  staticTypes := #[.long]
  resolved := Array.replicate 37 none
  statics := none }

def pool6 : Array CpInfo := pool [(1, .class_ 2), (0, u "java/lang/Comparable"), (0, .class_ 4), (0, u "java/lang/Object")] 7

/-- java/lang/Comparable -/
def k6 : Class := { plain "java/lang/Comparable" (some 0) with
  accessFlags := 1537
  interfaces := #[]
  cf := some (fileOf pool6 1 #[] #[] 1537 3 #[] #[])
  fields := #[]
  methods := #[]
  instanceTypes := #[]
  staticTypes := #[]
  resolved := Array.replicate 12 none
  statics := none }

def pool7 : Array CpInfo := pool [(1, .class_ 2), (0, u "java/lang/constant/Constable"), (0, .class_ 4), (0, u "java/lang/Object")] 6

/-- java/lang/constant/Constable -/
def k7 : Class := { plain "java/lang/constant/Constable" (some 0) with
  accessFlags := 1537
  interfaces := #[]
  cf := some (fileOf pool7 1 #[] #[] 1537 3 #[] #[])
  fields := #[]
  methods := #[]
  instanceTypes := #[]
  staticTypes := #[]
  resolved := Array.replicate 11 none
  statics := none }

def pool8 : Array CpInfo := pool [(1, .class_ 2), (0, u "java/lang/constant/ConstantDesc"), (0, .class_ 4), (0, u "java/lang/Object")] 32

/-- java/lang/constant/ConstantDesc -/
def k8 : Class := { plain "java/lang/constant/ConstantDesc" (some 0) with
  accessFlags := 1537
  interfaces := #[]
  cf := some (fileOf pool8 1 #[] #[] 1537 3 #[] #[])
  fields := #[]
  methods := #[]
  instanceTypes := #[]
  staticTypes := #[]
  resolved := Array.replicate 37 none
  statics := none }

def pool9 : Array CpInfo := pool [(1, .class_ 2), (0, u "java/lang/Long"), (98, u "(J)I"), (133, .class_ 237), (1, u "java/lang/Long$LongCache"), (33, .class_ 272), (0, u "java/lang/Number"), (2, u "value"), (0, u "J"), (84, u "TYPE"), (0, u "Ljava/lang/Class;"), (0, .class_ 364), (0, u "java/lang/Comparable"), (0, .class_ 366), (0, u "java/lang/constant/Constable"), (0, .class_ 368), (0, u "java/lang/constant/ConstantDesc"), (0, u "MIN_VALUE"), (1, u "MAX_VALUE"), (4, u "SIZE"), (0, u "I"), (1, u "BYTES"), (1, u "serialVersionUID"), (115, u "signum")] 26

def k9c0 : Code := { maxStack := 5, maxLocals := 2, code := jdk_35_method_57_code, exceptionTable := #[], attributes := #[] }
def k9m0 : Method := { name := "signum", desc := "(J)I", sig := { parameters := [.long], returnType := some .int }, accessFlags := 9, code := some k9c0 }
/-- java/lang/Long -/
def k9 : Class := { plain "java/lang/Long" (some 5) with
  accessFlags := 49
  interfaces := #[6, 7, 8]
  cf := some (fileOf pool9 1 #[.nestMembers #[235]] #[{ accessFlags := 9, nameIndex := 497, descriptorIndex := 101, attributes := #[] }] 49 271 #[363, 365, 367] #[{ accessFlags := 25, nameIndex := 369, descriptorIndex := 276, attributes := #[] }, { accessFlags := 25, nameIndex := 371, descriptorIndex := 276, attributes := #[] }, { accessFlags := 25, nameIndex := 361, descriptorIndex := 362, attributes := #[] }, { accessFlags := 18, nameIndex := 275, descriptorIndex := 276, attributes := #[] }, { accessFlags := 25, nameIndex := 376, descriptorIndex := 377, attributes := #[] }, { accessFlags := 25, nameIndex := 379, descriptorIndex := 377, attributes := #[] }, { accessFlags := 26, nameIndex := 381, descriptorIndex := 276, attributes := #[] }])
  fields := #[{ name := "MIN_VALUE", type := .long, accessFlags := 25, slot := 0, constantValue := 0 }, { name := "MAX_VALUE", type := .long, accessFlags := 25, slot := 1, constantValue := 0 }, { name := "TYPE", type := (.object "java/lang/Class"), accessFlags := 25, slot := 2, constantValue := 0 }, { name := "value", type := .long, accessFlags := 18, slot := 0, constantValue := 0 }, { name := "SIZE", type := .int, accessFlags := 25, slot := 3, constantValue := 0 }, { name := "BYTES", type := .int, accessFlags := 25, slot := 4, constantValue := 0 }, { name := "serialVersionUID", type := .long, accessFlags := 26, slot := 5, constantValue := 0 }]
  methods := #[k9m0]
  instanceTypes := #[.long]
  staticTypes := #[.long, .long, (.object "java/lang/Class"), .int, .int, .long]
  resolved := Array.replicate 524 none
  statics := none }

def pool10 : Array CpInfo := pool [(1, u "java/lang/Cloneable"), (0, .class_ 1), (0, u "java/lang/Object"), (0, .class_ 3)] 3

/-- java/lang/Cloneable -/
def k10 : Class := { plain "java/lang/Cloneable" (some 0) with
  accessFlags := 1537
  interfaces := #[]
  cf := some (fileOf pool10 2 #[] #[] 1537 4 #[] #[])
  fields := #[]
  methods := #[]
  instanceTypes := #[]
  staticTypes := #[]
  resolved := Array.replicate 8 none
  statics := none }

/-- the primitive byte -/
def k11 : Class := { plain "byte" none with kind := .primitive 'B', accessFlags := 0x411 }
/-- [B -/
def k12 : Class := { plain "[B" (some 0) with kind := .array 11 .byte, interfaces := #[10, 4], accessFlags := 1041 }

/-- the primitive int -/
def k13 : Class := { plain "int" none with kind := .primitive 'I', accessFlags := 0x411 }
/-- [I -/
def k14 : Class := { plain "[I" (some 0) with kind := .array 13 .int, interfaces := #[10, 4], accessFlags := 1041 }

/-- the primitive long -/
def k15 : Class := { plain "long" none with kind := .primitive 'J', accessFlags := 0x411 }
/-- [J -/
def k16 : Class := { plain "[J" (some 0) with kind := .array 15 .long, interfaces := #[10, 4], accessFlags := 1041 }

def heap : Heap := #[]
def classes : Array Class := #[k0, k1, k2, k3, k4, k5, k6, k7, k8, k9, k10, k11, k12, k13, k14, k15, k16]
def interned : List (Array UInt16 × Addr) := []
def slotsUsed : Nat := 0
def theMethod : MethodId := ⟨1, 1⟩
def args0 : Array Value := #[.long 5, .int 1, .int 1, .int 1, .int 1, .int 1]
def aboutOver (below : List Frame) : State where
  vm := { classes := classes, interned := interned.toArray }
  heap := heap
  slotsUsed := slotsUsed
  threads := #[{ frames := .invoking theMethod args0 :: below }]
def below0 : List Frame := [.native { method := ⟨0, 0⟩, args := #[] }]
def about1 : State := aboutOver below0
def p0 : Program := .bare "" "" ""
def e0 : Env := launch0.env 0 0 0
theorem w_frames : about1.frames = Frame.invoking theMethod args0 :: below0 := rfl
set_option maxRecDepth 65536 in
theorem w_args : argsFit about1.vm theMethod args0 = true := by decide +kernel
set_option maxRecDepth 65536 in
theorem w_heap : heapFits about1 = true := by decide +kernel
set_option maxRecDepth 65536 in
theorem w_runnable : about1.curStatus? = some .runnable := by decide +kernel
set_option maxRecDepth 65536 in
theorem w_alone : about1.alone = true := by decide +kernel
set_option maxRecDepth 65536 in
theorem w_named : about1.methodNamed? x = some theMethod := by decide +kernel
set_option maxRecDepth 65536 in
theorem w_hears : about1.hears theMethod below0 = true := by decide +kernel
set_option maxRecDepth 65536 in
theorem w_ripe : about1.ripe theMethod args0 below0 = true := by decide +kernel
theorem w_running : about1.status = .running := rfl
set_option maxRecDepth 65536 in
theorem w_room : about1.hasRoom e0.platform room_1 = true :=
  launch0.hasRoom_least _ room_1 (by decide +kernel) (by decide +kernel) (by decide +kernel) (by decide +kernel) (by decide +kernel) (by decide +kernel)
theorem allAtoms_all (ts : List Jvm.Cond) (a : Array Jvm.Value) (st : Jvm.State) : (allAtoms ts).before a st = ts.all (fun c => c.before a st) := by
  induction ts with
  | nil => rfl
  | cons c t ih =>
    show (Jvm.Cond.and c (allAtoms t)).before a st = _
    rw [Jvm.Cond.before_and, ih, List.all_cons]
def words1 : List Jvm.Cond := Jvm.Cond.code x code maxLocals ret :: tables_1
/-- a 'code' word, met by the world's own term for the bytes: nothing is compared byte by byte -/
theorem code_word {y : MethodName} {bytes : ByteArray} {mx : Nat} {rt : Option FieldType} {a : Array Value} {s : State} {m : MethodId} {meth : Method} {c : Code} (h1 : s.methodNamed? y = some m) (h2 : s.vm.method? m = some meth) (h3 : meth.code = some c) (h4 : c.code = bytes)
    (h5 : (c.maxLocals == mx && c.exceptionTable.isEmpty && decide (c.maxStack ≤ mostOperands) && decide (meth.sig.returnType = rt) && !meth.locks && decide (parseMethodDescriptor y.desc = some meth.sig)) = true) : (Jvm.Cond.code y bytes mx rt).before a s = true := by
  simp only [Bool.and_eq_true, beq_iff_eq, Bool.not_eq_true', decide_eq_true_eq] at h5
  obtain ⟨⟨⟨⟨⟨g1, g2⟩, g3⟩, g4⟩, g5⟩, g6⟩ := h5
  simp [Cond.before, Cond.holds, Cond.value, h1, h2, h3, h4, g1, g2, g3, g4, g5, g6]
def isCode : Jvm.Cond → Bool
  | .code _ _ _ _ => true
  | _ => false
theorem all_split {L : List Jvm.Cond} {P : Jvm.Cond → Bool} (h1 : L.all (fun c => isCode c || P c) = true) (h2 : ∀ c ∈ L.filter isCode, P c = true) : L.all P = true := by
  refine List.all_eq_true.mpr fun c hc => ?_
  have h := List.all_eq_true.mp h1 c hc
  rcases Bool.eq_false_or_eq_true (isCode c) with hi | hi
  · exact h2 c (List.mem_filter.mpr ⟨hc, hi⟩)
  · simpa [hi] using h
set_option maxRecDepth 65536 in
theorem w_c0 : (Jvm.Cond.code x code maxLocals ret).before args0 about1 = true := code_word (m := ⟨1, 1⟩) (meth := k1m1) (c := k1c1) (by decide +kernel) rfl rfl rfl (by decide +kernel)
set_option maxRecDepth 65536 in
theorem w_c1 : (Jvm.Cond.code ({ cls := "java/lang/Math", name := "max", desc := "(II)I" } : Jvm.MethodName) jdk_29_method_65_code (2 : Nat) (Option.some Jvm.ClassFile.FieldType.int)).before args0 about1 = true := code_word (m := ⟨2, 4⟩) (meth := k2m4) (c := k2c4) (by decide +kernel) rfl rfl rfl (by decide +kernel)
set_option maxRecDepth 65536 in
theorem w_c2 : (Jvm.Cond.code ({ cls := "java/lang/Math", name := "abs", desc := "(J)J" } : Jvm.MethodName) jdk_29_method_61_code (2 : Nat) (Option.some Jvm.ClassFile.FieldType.long)).before args0 about1 = true := code_word (m := ⟨2, 3⟩) (meth := k2m3) (c := k2c3) (by decide +kernel) rfl rfl rfl (by decide +kernel)
set_option maxRecDepth 65536 in
theorem w_c3 : (Jvm.Cond.code ({ cls := "com/example/syndicata/syndicata/Accrual", name := "accruedUnits", desc := "(JJIJII)J" } : Jvm.MethodName) prog_1_method_9_code (32 : Nat) (Option.some Jvm.ClassFile.FieldType.long)).before args0 about1 = true := code_word (m := ⟨3, 0⟩) (meth := k3m0) (c := k3c0) (by decide +kernel) rfl rfl rfl (by decide +kernel)
set_option maxRecDepth 65536 in
theorem w_c4 : (Jvm.Cond.code ({ cls := "java/lang/Math", name := "abs", desc := "(I)I" } : Jvm.MethodName) jdk_29_method_59_code (1 : Nat) (Option.some Jvm.ClassFile.FieldType.int)).before args0 about1 = true := code_word (m := ⟨2, 2⟩) (meth := k2m2) (c := k2c2) (by decide +kernel) rfl rfl rfl (by decide +kernel)
set_option maxRecDepth 65536 in
theorem w_c5 : (Jvm.Cond.code ({ cls := "com/example/syndicata/syndicata/Accrual", name := "powerOfTen", desc := "(I)J" } : Jvm.MethodName) prog_1_method_14_code (4 : Nat) (Option.some Jvm.ClassFile.FieldType.long)).before args0 about1 = true := code_word (m := ⟨3, 3⟩) (meth := k3m3) (c := k3c3) (by decide +kernel) rfl rfl rfl (by decide +kernel)
set_option maxRecDepth 65536 in
theorem w_c6 : (Jvm.Cond.code ({ cls := "com/example/syndicata/syndicata/Accrual", name := "productFits", desc := "(JJ)Z" } : Jvm.MethodName) prog_1_method_12_code (4 : Nat) (Option.some Jvm.ClassFile.FieldType.boolean)).before args0 about1 = true := code_word (m := ⟨3, 1⟩) (meth := k3m1) (c := k3c1) (by decide +kernel) rfl rfl rfl (by decide +kernel)
set_option maxRecDepth 65536 in
theorem w_c7 : (Jvm.Cond.code ({ cls := "java/lang/Math", name := "multiplyHigh", desc := "(JJ)J" } : Jvm.MethodName) jdk_29_method_45_code (20 : Nat) (Option.some Jvm.ClassFile.FieldType.long)).before args0 about1 = true := code_word (m := ⟨2, 1⟩) (meth := k2m1) (c := k2c1) (by decide +kernel) rfl rfl rfl (by decide +kernel)
set_option maxRecDepth 65536 in
theorem w_c8 : (Jvm.Cond.code ({ cls := "java/lang/Long", name := "signum", desc := "(J)I" } : Jvm.MethodName) jdk_35_method_57_code (2 : Nat) (Option.some Jvm.ClassFile.FieldType.int)).before args0 about1 = true := code_word (m := ⟨9, 0⟩) (meth := k9m0) (c := k9c0) (by decide +kernel) rfl rfl rfl (by decide +kernel)
set_option maxRecDepth 65536 in
theorem w_c9 : (Jvm.Cond.code ({ cls := "com/example/syndicata/syndicata/Accrual", name := "sumFits", desc := "(JJ)Z" } : Jvm.MethodName) prog_1_method_13_code (6 : Nat) (Option.some Jvm.ClassFile.FieldType.boolean)).before args0 about1 = true := code_word (m := ⟨3, 2⟩) (meth := k3m2) (c := k3c2) (by decide +kernel) rfl rfl rfl (by decide +kernel)
def codes1 : List Jvm.Cond := [Jvm.Cond.code x code maxLocals ret, Jvm.Cond.code ({ cls := "java/lang/Math", name := "max", desc := "(II)I" } : Jvm.MethodName) jdk_29_method_65_code (2 : Nat) (Option.some Jvm.ClassFile.FieldType.int), Jvm.Cond.code ({ cls := "java/lang/Math", name := "abs", desc := "(J)J" } : Jvm.MethodName) jdk_29_method_61_code (2 : Nat) (Option.some Jvm.ClassFile.FieldType.long), Jvm.Cond.code ({ cls := "com/example/syndicata/syndicata/Accrual", name := "accruedUnits", desc := "(JJIJII)J" } : Jvm.MethodName) prog_1_method_9_code (32 : Nat) (Option.some Jvm.ClassFile.FieldType.long), Jvm.Cond.code ({ cls := "java/lang/Math", name := "abs", desc := "(I)I" } : Jvm.MethodName) jdk_29_method_59_code (1 : Nat) (Option.some Jvm.ClassFile.FieldType.int), Jvm.Cond.code ({ cls := "com/example/syndicata/syndicata/Accrual", name := "powerOfTen", desc := "(I)J" } : Jvm.MethodName) prog_1_method_14_code (4 : Nat) (Option.some Jvm.ClassFile.FieldType.long), Jvm.Cond.code ({ cls := "com/example/syndicata/syndicata/Accrual", name := "productFits", desc := "(JJ)Z" } : Jvm.MethodName) prog_1_method_12_code (4 : Nat) (Option.some Jvm.ClassFile.FieldType.boolean), Jvm.Cond.code ({ cls := "java/lang/Math", name := "multiplyHigh", desc := "(JJ)J" } : Jvm.MethodName) jdk_29_method_45_code (20 : Nat) (Option.some Jvm.ClassFile.FieldType.long), Jvm.Cond.code ({ cls := "java/lang/Long", name := "signum", desc := "(J)I" } : Jvm.MethodName) jdk_35_method_57_code (2 : Nat) (Option.some Jvm.ClassFile.FieldType.int), Jvm.Cond.code ({ cls := "com/example/syndicata/syndicata/Accrual", name := "sumFits", desc := "(JJ)Z" } : Jvm.MethodName) prog_1_method_13_code (6 : Nat) (Option.some Jvm.ClassFile.FieldType.boolean)]
set_option maxRecDepth 65536 in
theorem codes_eq : words1.filter isCode = codes1 := rfl
theorem w_codes : ∀ c ∈ words1.filter isCode, c.before args0 about1 = true := by
  rw [codes_eq]
  intro c hc
  simp only [codes1, List.mem_cons, List.not_mem_nil, or_false] at hc
  rcases hc with rfl | rfl | rfl | rfl | rfl | rfl | rfl | rfl | rfl | rfl
  · exact w_c0
  · exact w_c1
  · exact w_c2
  · exact w_c3
  · exact w_c4
  · exact w_c5
  · exact w_c6
  · exact w_c7
  · exact w_c8
  · exact w_c9
set_option maxRecDepth 65536 in
theorem w_t1 : (words1.take 24).all (fun c => isCode c || c.before args0 about1) = true := by decide +kernel
set_option maxRecDepth 65536 in
theorem w_t2 : ((words1.drop 24).take 24).all (fun c => isCode c || c.before args0 about1) = true := by decide +kernel
set_option maxRecDepth 65536 in
theorem w_t3 : ((words1.drop 24).drop 24).all (fun c => isCode c || c.before args0 about1) = true := by decide +kernel
theorem w_tables : (allAtoms (Jvm.Cond.code x code maxLocals ret :: tables_1)).before args0 about1 = true := by
  rw [allAtoms_all]
  show words1.all (fun c => c.before args0 about1) = true
  refine all_split ?_ w_codes
  rw [← List.take_append_drop 24 words1, List.all_append, w_t1, ← List.take_append_drop 24 (words1.drop 24), List.all_append, w_t2, w_t3]
  rfl
set_option maxRecDepth 65536 in
theorem w_case : (Jvm.Cond.and given_1 narrow_1).before args0 about1 = true := by decide +kernel
theorem w_applies : (headSpec (Jvm.Cond.code x code maxLocals ret :: tables_1) room_1).applies x e0.platform about1 = true :=
  (Spec.applies_iff w_frames).mpr ⟨w_running, w_runnable, w_alone, w_named, w_hears, w_ripe, w_room, w_tables⟩
theorem atStart : AtStart classFile x code maxLocals ret World_1 tables_1 room_1 Calls_1 rest_1 Pre_1 launch0 p0 e0 about1 theMethod args0 below0 :=
  ⟨lists_1, trivial, launch0.admits_env _ _ _, launch0.least_env, fairChoices_fair.cas, fairChoices_fair.clock, w_frames, w_args, w_heap, w_applies, trivial, trivial, w_case⟩
end start1
theorem witness_1 : WitnessClaimed_1 := ⟨start1.p0, start1.e0, start1.about1, start1.theMethod, start1.args0, start1.below0, start1.atStart⟩
end Jvm.Pilot.@@N@@
