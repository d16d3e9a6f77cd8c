import JvmDerived
import JvmDerived.Pilot.@@N@@Statement
import JvmDerived.Pilot.@@N@@Code
set_option linter.unusedVariables false
set_option linter.unusedSimpArgs false
namespace Jvm.RoadKit
open Sem ClassFile Op Lib Jvm.Stand Jvm.Free Jvm.LawKit
section New
variable {p : Program} {l : Launch} {e : Env} {R : Room} {s : State} {m : MethodId} {args : Array Value} {below : List Frame} {meth : Method} {c : Code} {T : State} {locs : List Loc} {cells slots : Nat}
theorem retI (X : Stand p l e R s m args below meth c T locs cells slots) (hx : p.tables.exec = Jvm.exec) {pc : Nat} {Ls : Array Slot} {z : Int32} {rest : List Value} (hret : meth.sig.returnType = some .int) (hd : decode c.code pc = .ok (.ireturn, 1)) {fs : List Frame}
    (hl : ∀ (f : JFrame) (acts : List Action), f.method = m → f.locked = none → f.entered = [] → (doReturn e (T.setTop f) acts (some (.int z))).1 = T.setFrames fs) : Steps p.tables e below (T.setTop (mkF m pc Ls (.int z :: rest))) (T.setFrames fs) := by
  have hm' : T.vm.method? m = some meth := X.method'
  have hn : narrow .int (.int z) = .int z := rfl
  show Steps p.tables e below (T.setTop { method := m, pc := pc, locals := Ls, stack := _ :: rest, locked := none }) _
  jvm_step X.here [X.here.top, hx, hd, hm', hret, hn]
  first | (intro acts; rw [hl _ acts rfl rfl rfl]) | rw [hl _ _ rfl rfl rfl]
  exact Steps.refl _
end New
end Jvm.RoadKit
namespace Jvm.Pilot.@@N@@
open Jvm Jvm.ClassFile Sem Op Lib Jvm.Free Jvm.Stand Jvm.LawKit Jvm.RoadKit Bundle Jvm.Pilot.@@N@@.Jvm.D
theorem d1_0 : decode method_3_code 0 = .ok (.iload_n 0, 1) := by decide +kernel
theorem d1_1 : decode method_3_code 1 = .ok (.bipush 8, 2) := by decide +kernel
theorem d1_3 : decode method_3_code 3 = .ok (.iushr, 1) := by decide +kernel
theorem d1_4 : decode method_3_code 4 = .ok (.iconst 1, 1) := by decide +kernel
theorem d1_5 : decode method_3_code 5 = .ok (.iand, 1) := by decide +kernel
theorem d1_6 : decode method_3_code 6 = .ok (.ifCond .eq 14, 3) := by decide +kernel
theorem d1_9 : decode method_3_code 9 = .ok (.sipush 128, 3) := by decide +kernel
theorem d1_12 : decode method_3_code 12 = .ok (.iload_n 0, 1) := by decide +kernel
theorem d1_13 : decode method_3_code 13 = .ok (.bipush 63, 2) := by decide +kernel
theorem d1_15 : decode method_3_code 15 = .ok (.iand, 1) := by decide +kernel
theorem d1_16 : decode method_3_code 16 = .ok (.ior, 1) := by decide +kernel
theorem d1_17 : decode method_3_code 17 = .ok (.goto 8, 3) := by decide +kernel
theorem d1_20 : decode method_3_code 20 = .ok (.iload_n 0, 1) := by decide +kernel
theorem d1_21 : decode method_3_code 21 = .ok (.sipush 255, 3) := by decide +kernel
theorem d1_24 : decode method_3_code 24 = .ok (.iand, 1) := by decide +kernel
theorem d1_25 : decode method_3_code 25 = .ok (.ireturn, 1) := by decide +kernel
theorem d2_0 : decode method_4_code 0 = .ok (.iload_n 2, 1) := by decide +kernel
theorem d2_1 : decode method_4_code 1 = .ok (.sipush 192, 3) := by decide +kernel
theorem d2_4 : decode method_4_code 4 = .ok (.if_icmp .ge 12, 3) := by decide +kernel
theorem d2_7 : decode method_4_code 7 = .ok (.iconst 0, 1) := by decide +kernel
theorem d2_8 : decode method_4_code 8 = .ok (.istore 6, 2) := by decide +kernel
theorem d2_10 : decode method_4_code 10 = .ok (.iconst 0, 1) := by decide +kernel
theorem d2_11 : decode method_4_code 11 = .ok (.istore 7, 2) := by decide +kernel
theorem d2_13 : decode method_4_code 13 = .ok (.goto 81, 3) := by decide +kernel
theorem d2_16 : decode method_4_code 16 = .ok (.iload_n 2, 1) := by decide +kernel
theorem d2_17 : decode method_4_code 17 = .ok (.sipush 224, 3) := by decide +kernel
theorem d2_20 : decode method_4_code 20 = .ok (.if_icmp .ge 24, 3) := by decide +kernel
theorem d2_23 : decode method_4_code 23 = .ok (.iconst 2, 1) := by decide +kernel
theorem d2_24 : decode method_4_code 24 = .ok (.istore 6, 2) := by decide +kernel
theorem d2_26 : decode method_4_code 26 = .ok (.iload_n 2, 1) := by decide +kernel
theorem d2_27 : decode method_4_code 27 = .ok (.bipush 31, 2) := by decide +kernel
theorem d2_29 : decode method_4_code 29 = .ok (.iand, 1) := by decide +kernel
theorem d2_30 : decode method_4_code 30 = .ok (.iconst 2, 1) := by decide +kernel
theorem d2_31 : decode method_4_code 31 = .ok (.if_icmp .lt 7, 3) := by decide +kernel
theorem d2_34 : decode method_4_code 34 = .ok (.iconst 1, 1) := by decide +kernel
theorem d2_35 : decode method_4_code 35 = .ok (.goto 4, 3) := by decide +kernel
theorem d2_38 : decode method_4_code 38 = .ok (.iconst 0, 1) := by decide +kernel
theorem d2_39 : decode method_4_code 39 = .ok (.istore 7, 2) := by decide +kernel
theorem d2_41 : decode method_4_code 41 = .ok (.goto 53, 3) := by decide +kernel
theorem d2_44 : decode method_4_code 44 = .ok (.iload_n 2, 1) := by decide +kernel
theorem d2_45 : decode method_4_code 45 = .ok (.sipush 240, 3) := by decide +kernel
theorem d2_48 : decode method_4_code 48 = .ok (.if_icmp .ge 12, 3) := by decide +kernel
theorem d2_51 : decode method_4_code 51 = .ok (.iconst 3, 1) := by decide +kernel
theorem d2_52 : decode method_4_code 52 = .ok (.istore 6, 2) := by decide +kernel
theorem d2_54 : decode method_4_code 54 = .ok (.iconst 1, 1) := by decide +kernel
theorem d2_55 : decode method_4_code 55 = .ok (.istore 7, 2) := by decide +kernel
theorem d2_57 : decode method_4_code 57 = .ok (.goto 37, 3) := by decide +kernel
theorem d2_60 : decode method_4_code 60 = .ok (.iload_n 2, 1) := by decide +kernel
theorem d2_61 : decode method_4_code 61 = .ok (.sipush 248, 3) := by decide +kernel
theorem d2_64 : decode method_4_code 64 = .ok (.if_icmp .ge 24, 3) := by decide +kernel
theorem d2_67 : decode method_4_code 67 = .ok (.iconst 4, 1) := by decide +kernel
theorem d2_68 : decode method_4_code 68 = .ok (.istore 6, 2) := by decide +kernel
theorem d2_70 : decode method_4_code 70 = .ok (.iload_n 2, 1) := by decide +kernel
theorem d2_71 : decode method_4_code 71 = .ok (.bipush 7, 2) := by decide +kernel
theorem d2_73 : decode method_4_code 73 = .ok (.iand, 1) := by decide +kernel
theorem d2_74 : decode method_4_code 74 = .ok (.iconst 4, 1) := by decide +kernel
theorem d2_75 : decode method_4_code 75 = .ok (.if_icmp .gt 7, 3) := by decide +kernel
theorem d2_78 : decode method_4_code 78 = .ok (.iconst 1, 1) := by decide +kernel
theorem d2_79 : decode method_4_code 79 = .ok (.goto 4, 3) := by decide +kernel
theorem d2_82 : decode method_4_code 82 = .ok (.iconst 0, 1) := by decide +kernel
theorem d2_83 : decode method_4_code 83 = .ok (.istore 7, 2) := by decide +kernel
theorem d2_85 : decode method_4_code 85 = .ok (.goto 9, 3) := by decide +kernel
theorem d2_88 : decode method_4_code 88 = .ok (.iconst 0, 1) := by decide +kernel
theorem d2_89 : decode method_4_code 89 = .ok (.istore 6, 2) := by decide +kernel
theorem d2_91 : decode method_4_code 91 = .ok (.iconst 0, 1) := by decide +kernel
theorem d2_92 : decode method_4_code 92 = .ok (.istore 7, 2) := by decide +kernel
theorem d2_94 : decode method_4_code 94 = .ok (.iload 7, 2) := by decide +kernel
theorem d2_96 : decode method_4_code 96 = .ok (.ifCond .ne 7, 3) := by decide +kernel
theorem d2_99 : decode method_4_code 99 = .ok (.iload_n 0, 1) := by decide +kernel
theorem d2_100 : decode method_4_code 100 = .ok (.iconst (-1), 1) := by decide +kernel
theorem d2_101 : decode method_4_code 101 = .ok (.ixor, 1) := by decide +kernel
theorem d2_102 : decode method_4_code 102 = .ok (.ireturn, 1) := by decide +kernel
theorem d2_103 : decode method_4_code 103 = .ok (.iload_n 0, 1) := by decide +kernel
theorem d2_104 : decode method_4_code 104 = .ok (.iconst 1, 1) := by decide +kernel
theorem d2_105 : decode method_4_code 105 = .ok (.iadd, 1) := by decide +kernel
theorem d2_106 : decode method_4_code 106 = .ok (.iload_n 1, 1) := by decide +kernel
theorem d2_107 : decode method_4_code 107 = .ok (.if_icmp .ge 18, 3) := by decide +kernel
theorem d2_110 : decode method_4_code 110 = .ok (.iload_n 3, 1) := by decide +kernel
theorem d2_111 : decode method_4_code 111 = .ok (.sipush 192, 3) := by decide +kernel
theorem d2_114 : decode method_4_code 114 = .ok (.iand, 1) := by decide +kernel
theorem d2_115 : decode method_4_code 115 = .ok (.sipush 128, 3) := by decide +kernel
theorem d2_118 : decode method_4_code 118 = .ok (.if_icmp .ne 7, 3) := by decide +kernel
theorem d2_121 : decode method_4_code 121 = .ok (.iconst 1, 1) := by decide +kernel
theorem d2_122 : decode method_4_code 122 = .ok (.goto 4, 3) := by decide +kernel
theorem d2_125 : decode method_4_code 125 = .ok (.iconst 0, 1) := by decide +kernel
theorem d2_126 : decode method_4_code 126 = .ok (.istore 8, 2) := by decide +kernel
theorem d2_128 : decode method_4_code 128 = .ok (.iload 6, 2) := by decide +kernel
theorem d2_130 : decode method_4_code 130 = .ok (.iconst 3, 1) := by decide +kernel
theorem d2_131 : decode method_4_code 131 = .ok (.if_icmp .ne 55, 3) := by decide +kernel
theorem d2_134 : decode method_4_code 134 = .ok (.iload_n 2, 1) := by decide +kernel
theorem d2_135 : decode method_4_code 135 = .ok (.bipush 15, 2) := by decide +kernel
theorem d2_137 : decode method_4_code 137 = .ok (.iand, 1) := by decide +kernel
theorem d2_138 : decode method_4_code 138 = .ok (.bipush 6, 2) := by decide +kernel
theorem d2_140 : decode method_4_code 140 = .ok (.ishl, 1) := by decide +kernel
theorem d2_141 : decode method_4_code 141 = .ok (.iload_n 3, 1) := by decide +kernel
theorem d2_142 : decode method_4_code 142 = .ok (.bipush 63, 2) := by decide +kernel
theorem d2_144 : decode method_4_code 144 = .ok (.iand, 1) := by decide +kernel
theorem d2_145 : decode method_4_code 145 = .ok (.ior, 1) := by decide +kernel
theorem d2_146 : decode method_4_code 146 = .ok (.istore 9, 2) := by decide +kernel
theorem d2_148 : decode method_4_code 148 = .ok (.iload 8, 2) := by decide +kernel
theorem d2_150 : decode method_4_code 150 = .ok (.ifCond .eq 30, 3) := by decide +kernel
theorem d2_153 : decode method_4_code 153 = .ok (.iload 9, 2) := by decide +kernel
theorem d2_155 : decode method_4_code 155 = .ok (.bipush 32, 2) := by decide +kernel
theorem d2_157 : decode method_4_code 157 = .ok (.if_icmp .lt 23, 3) := by decide +kernel
theorem d2_160 : decode method_4_code 160 = .ok (.iload 9, 2) := by decide +kernel
theorem d2_162 : decode method_4_code 162 = .ok (.sipush 864, 3) := by decide +kernel
theorem d2_165 : decode method_4_code 165 = .ok (.if_icmp .lt 11, 3) := by decide +kernel
theorem d2_168 : decode method_4_code 168 = .ok (.iload 9, 2) := by decide +kernel
theorem d2_170 : decode method_4_code 170 = .ok (.sipush 895, 3) := by decide +kernel
theorem d2_173 : decode method_4_code 173 = .ok (.if_icmp .le 7, 3) := by decide +kernel
theorem d2_176 : decode method_4_code 176 = .ok (.iconst 1, 1) := by decide +kernel
theorem d2_177 : decode method_4_code 177 = .ok (.goto 4, 3) := by decide +kernel
theorem d2_180 : decode method_4_code 180 = .ok (.iconst 0, 1) := by decide +kernel
theorem d2_181 : decode method_4_code 181 = .ok (.istore 8, 2) := by decide +kernel
theorem d2_183 : decode method_4_code 183 = .ok (.goto 50, 3) := by decide +kernel
theorem d2_186 : decode method_4_code 186 = .ok (.iload 6, 2) := by decide +kernel
theorem d2_188 : decode method_4_code 188 = .ok (.iconst 4, 1) := by decide +kernel
theorem d2_189 : decode method_4_code 189 = .ok (.if_icmp .ne 44, 3) := by decide +kernel
theorem d2_192 : decode method_4_code 192 = .ok (.iload_n 2, 1) := by decide +kernel
theorem d2_193 : decode method_4_code 193 = .ok (.bipush 7, 2) := by decide +kernel
theorem d2_195 : decode method_4_code 195 = .ok (.iand, 1) := by decide +kernel
theorem d2_196 : decode method_4_code 196 = .ok (.bipush 6, 2) := by decide +kernel
theorem d2_198 : decode method_4_code 198 = .ok (.ishl, 1) := by decide +kernel
theorem d2_199 : decode method_4_code 199 = .ok (.iload_n 3, 1) := by decide +kernel
theorem d2_200 : decode method_4_code 200 = .ok (.bipush 63, 2) := by decide +kernel
theorem d2_202 : decode method_4_code 202 = .ok (.iand, 1) := by decide +kernel
theorem d2_203 : decode method_4_code 203 = .ok (.ior, 1) := by decide +kernel
theorem d2_204 : decode method_4_code 204 = .ok (.istore 9, 2) := by decide +kernel
theorem d2_206 : decode method_4_code 206 = .ok (.iload 8, 2) := by decide +kernel
theorem d2_208 : decode method_4_code 208 = .ok (.ifCond .eq 22, 3) := by decide +kernel
theorem d2_211 : decode method_4_code 211 = .ok (.iload 9, 2) := by decide +kernel
theorem d2_213 : decode method_4_code 213 = .ok (.bipush 16, 2) := by decide +kernel
theorem d2_215 : decode method_4_code 215 = .ok (.if_icmp .lt 15, 3) := by decide +kernel
theorem d2_218 : decode method_4_code 218 = .ok (.iload 9, 2) := by decide +kernel
theorem d2_220 : decode method_4_code 220 = .ok (.sipush 271, 3) := by decide +kernel
theorem d2_223 : decode method_4_code 223 = .ok (.if_icmp .gt 7, 3) := by decide +kernel
theorem d2_226 : decode method_4_code 226 = .ok (.iconst 1, 1) := by decide +kernel
theorem d2_227 : decode method_4_code 227 = .ok (.goto 4, 3) := by decide +kernel
theorem d2_230 : decode method_4_code 230 = .ok (.iconst 0, 1) := by decide +kernel
theorem d2_231 : decode method_4_code 231 = .ok (.istore 8, 2) := by decide +kernel
theorem d2_233 : decode method_4_code 233 = .ok (.iload 8, 2) := by decide +kernel
theorem d2_235 : decode method_4_code 235 = .ok (.ifCond .ne 9, 3) := by decide +kernel
theorem d2_238 : decode method_4_code 238 = .ok (.iload_n 0, 1) := by decide +kernel
theorem d2_239 : decode method_4_code 239 = .ok (.iconst 1, 1) := by decide +kernel
theorem d2_240 : decode method_4_code 240 = .ok (.iadd, 1) := by decide +kernel
theorem d2_241 : decode method_4_code 241 = .ok (.iconst (-1), 1) := by decide +kernel
theorem d2_242 : decode method_4_code 242 = .ok (.ixor, 1) := by decide +kernel
theorem d2_243 : decode method_4_code 243 = .ok (.ireturn, 1) := by decide +kernel
theorem d2_244 : decode method_4_code 244 = .ok (.iload 6, 2) := by decide +kernel
theorem d2_246 : decode method_4_code 246 = .ok (.iconst 2, 1) := by decide +kernel
theorem d2_247 : decode method_4_code 247 = .ok (.if_icmp .ne 7, 3) := by decide +kernel
theorem d2_250 : decode method_4_code 250 = .ok (.iload_n 0, 1) := by decide +kernel
theorem d2_251 : decode method_4_code 251 = .ok (.iconst 2, 1) := by decide +kernel
theorem d2_252 : decode method_4_code 252 = .ok (.iadd, 1) := by decide +kernel
theorem d2_253 : decode method_4_code 253 = .ok (.ireturn, 1) := by decide +kernel
theorem d2_254 : decode method_4_code 254 = .ok (.iload_n 0, 1) := by decide +kernel
theorem d2_255 : decode method_4_code 255 = .ok (.iconst 2, 1) := by decide +kernel
theorem d2_256 : decode method_4_code 256 = .ok (.iadd, 1) := by decide +kernel
theorem d2_257 : decode method_4_code 257 = .ok (.iload_n 1, 1) := by decide +kernel
theorem d2_258 : decode method_4_code 258 = .ok (.if_icmp .ge 15, 3) := by decide +kernel
theorem d2_261 : decode method_4_code 261 = .ok (.iload 4, 2) := by decide +kernel
theorem d2_263 : decode method_4_code 263 = .ok (.sipush 192, 3) := by decide +kernel
theorem d2_266 : decode method_4_code 266 = .ok (.iand, 1) := by decide +kernel
theorem d2_267 : decode method_4_code 267 = .ok (.sipush 128, 3) := by decide +kernel
theorem d2_270 : decode method_4_code 270 = .ok (.if_icmp .eq 9, 3) := by decide +kernel
theorem d2_273 : decode method_4_code 273 = .ok (.iload_n 0, 1) := by decide +kernel
theorem d2_274 : decode method_4_code 274 = .ok (.iconst 2, 1) := by decide +kernel
theorem d2_275 : decode method_4_code 275 = .ok (.iadd, 1) := by decide +kernel
theorem d2_276 : decode method_4_code 276 = .ok (.iconst (-1), 1) := by decide +kernel
theorem d2_277 : decode method_4_code 277 = .ok (.ixor, 1) := by decide +kernel
theorem d2_278 : decode method_4_code 278 = .ok (.ireturn, 1) := by decide +kernel
theorem d2_279 : decode method_4_code 279 = .ok (.iload 6, 2) := by decide +kernel
theorem d2_281 : decode method_4_code 281 = .ok (.iconst 3, 1) := by decide +kernel
theorem d2_282 : decode method_4_code 282 = .ok (.if_icmp .ne 7, 3) := by decide +kernel
theorem d2_285 : decode method_4_code 285 = .ok (.iload_n 0, 1) := by decide +kernel
theorem d2_286 : decode method_4_code 286 = .ok (.iconst 3, 1) := by decide +kernel
theorem d2_287 : decode method_4_code 287 = .ok (.iadd, 1) := by decide +kernel
theorem d2_288 : decode method_4_code 288 = .ok (.ireturn, 1) := by decide +kernel
theorem d2_289 : decode method_4_code 289 = .ok (.iload_n 0, 1) := by decide +kernel
theorem d2_290 : decode method_4_code 290 = .ok (.iconst 3, 1) := by decide +kernel
theorem d2_291 : decode method_4_code 291 = .ok (.iadd, 1) := by decide +kernel
theorem d2_292 : decode method_4_code 292 = .ok (.iload_n 1, 1) := by decide +kernel
theorem d2_293 : decode method_4_code 293 = .ok (.if_icmp .ge 15, 3) := by decide +kernel
theorem d2_296 : decode method_4_code 296 = .ok (.iload 5, 2) := by decide +kernel
theorem d2_298 : decode method_4_code 298 = .ok (.sipush 192, 3) := by decide +kernel
theorem d2_301 : decode method_4_code 301 = .ok (.iand, 1) := by decide +kernel
theorem d2_302 : decode method_4_code 302 = .ok (.sipush 128, 3) := by decide +kernel
theorem d2_305 : decode method_4_code 305 = .ok (.if_icmp .eq 9, 3) := by decide +kernel
theorem d2_308 : decode method_4_code 308 = .ok (.iload_n 0, 1) := by decide +kernel
theorem d2_309 : decode method_4_code 309 = .ok (.iconst 3, 1) := by decide +kernel
theorem d2_310 : decode method_4_code 310 = .ok (.iadd, 1) := by decide +kernel
theorem d2_311 : decode method_4_code 311 = .ok (.iconst (-1), 1) := by decide +kernel
theorem d2_312 : decode method_4_code 312 = .ok (.ixor, 1) := by decide +kernel
theorem d2_313 : decode method_4_code 313 = .ok (.ireturn, 1) := by decide +kernel
theorem d2_314 : decode method_4_code 314 = .ok (.iload_n 0, 1) := by decide +kernel
theorem d2_315 : decode method_4_code 315 = .ok (.iconst 4, 1) := by decide +kernel
theorem d2_316 : decode method_4_code 316 = .ok (.iadd, 1) := by decide +kernel
theorem d2_317 : decode method_4_code 317 = .ok (.ireturn, 1) := by decide +kernel
theorem d3_0 : decode prog_31_method_9_code 0 = .ok (.aload_n 0, 1) := by decide +kernel
theorem d3_1 : decode prog_31_method_9_code 1 = .ok (.iload_n 1, 1) := by decide +kernel
theorem d3_2 : decode prog_31_method_9_code 2 = .ok (.baload, 1) := by decide +kernel
theorem d3_3 : decode prog_31_method_9_code 3 = .ok (.sipush 255, 3) := by decide +kernel
theorem d3_6 : decode prog_31_method_9_code 6 = .ok (.iand, 1) := by decide +kernel
theorem d3_7 : decode prog_31_method_9_code 7 = .ok (.istore_n 3, 1) := by decide +kernel
theorem d3_8 : decode prog_31_method_9_code 8 = .ok (.sipush 128, 3) := by decide +kernel
theorem d3_11 : decode prog_31_method_9_code 11 = .ok (.istore 5, 2) := by decide +kernel
theorem d3_13 : decode prog_31_method_9_code 13 = .ok (.sipush 191, 3) := by decide +kernel
theorem d3_16 : decode prog_31_method_9_code 16 = .ok (.istore 6, 2) := by decide +kernel
theorem d3_18 : decode prog_31_method_9_code 18 = .ok (.iload_n 3, 1) := by decide +kernel
theorem d3_19 : decode prog_31_method_9_code 19 = .ok (.sipush 194, 3) := by decide +kernel
theorem d3_22 : decode prog_31_method_9_code 22 = .ok (.if_icmp .lt 16, 3) := by decide +kernel
theorem d3_25 : decode prog_31_method_9_code 25 = .ok (.iload_n 3, 1) := by decide +kernel
theorem d3_26 : decode prog_31_method_9_code 26 = .ok (.sipush 223, 3) := by decide +kernel
theorem d3_29 : decode prog_31_method_9_code 29 = .ok (.if_icmp .gt 9, 3) := by decide +kernel
theorem d3_32 : decode prog_31_method_9_code 32 = .ok (.iconst 2, 1) := by decide +kernel
theorem d3_33 : decode prog_31_method_9_code 33 = .ok (.istore 4, 2) := by decide +kernel
theorem d3_35 : decode prog_31_method_9_code 35 = .ok (.goto 115, 3) := by decide +kernel
theorem d3_38 : decode prog_31_method_9_code 38 = .ok (.iload_n 3, 1) := by decide +kernel
theorem d3_39 : decode prog_31_method_9_code 39 = .ok (.sipush 224, 3) := by decide +kernel
theorem d3_42 : decode prog_31_method_9_code 42 = .ok (.if_icmp .lt 50, 3) := by decide +kernel
theorem d3_45 : decode prog_31_method_9_code 45 = .ok (.iload_n 3, 1) := by decide +kernel
theorem d3_46 : decode prog_31_method_9_code 46 = .ok (.sipush 239, 3) := by decide +kernel
theorem d3_49 : decode prog_31_method_9_code 49 = .ok (.if_icmp .gt 43, 3) := by decide +kernel
theorem d3_52 : decode prog_31_method_9_code 52 = .ok (.iconst 3, 1) := by decide +kernel
theorem d3_53 : decode prog_31_method_9_code 53 = .ok (.istore 4, 2) := by decide +kernel
theorem d3_55 : decode prog_31_method_9_code 55 = .ok (.iload_n 3, 1) := by decide +kernel
theorem d3_56 : decode prog_31_method_9_code 56 = .ok (.sipush 224, 3) := by decide +kernel
theorem d3_59 : decode prog_31_method_9_code 59 = .ok (.if_icmp .ne 9, 3) := by decide +kernel
theorem d3_62 : decode prog_31_method_9_code 62 = .ok (.sipush 160, 3) := by decide +kernel
theorem d3_65 : decode prog_31_method_9_code 65 = .ok (.goto 5, 3) := by decide +kernel
theorem d3_68 : decode prog_31_method_9_code 68 = .ok (.iload 5, 2) := by decide +kernel
theorem d3_70 : decode prog_31_method_9_code 70 = .ok (.istore 5, 2) := by decide +kernel
theorem d3_72 : decode prog_31_method_9_code 72 = .ok (.iload_n 3, 1) := by decide +kernel
theorem d3_73 : decode prog_31_method_9_code 73 = .ok (.sipush 237, 3) := by decide +kernel
theorem d3_76 : decode prog_31_method_9_code 76 = .ok (.if_icmp .ne 9, 3) := by decide +kernel
theorem d3_79 : decode prog_31_method_9_code 79 = .ok (.sipush 159, 3) := by decide +kernel
theorem d3_82 : decode prog_31_method_9_code 82 = .ok (.goto 5, 3) := by decide +kernel
theorem d3_85 : decode prog_31_method_9_code 85 = .ok (.iload 6, 2) := by decide +kernel
theorem d3_87 : decode prog_31_method_9_code 87 = .ok (.istore 6, 2) := by decide +kernel
theorem d3_89 : decode prog_31_method_9_code 89 = .ok (.goto 61, 3) := by decide +kernel
theorem d3_92 : decode prog_31_method_9_code 92 = .ok (.iload_n 3, 1) := by decide +kernel
theorem d3_93 : decode prog_31_method_9_code 93 = .ok (.sipush 240, 3) := by decide +kernel
theorem d3_96 : decode prog_31_method_9_code 96 = .ok (.if_icmp .lt 50, 3) := by decide +kernel
theorem d3_99 : decode prog_31_method_9_code 99 = .ok (.iload_n 3, 1) := by decide +kernel
theorem d3_100 : decode prog_31_method_9_code 100 = .ok (.sipush 244, 3) := by decide +kernel
theorem d3_103 : decode prog_31_method_9_code 103 = .ok (.if_icmp .gt 43, 3) := by decide +kernel
theorem d3_106 : decode prog_31_method_9_code 106 = .ok (.iconst 4, 1) := by decide +kernel
theorem d3_107 : decode prog_31_method_9_code 107 = .ok (.istore 4, 2) := by decide +kernel
theorem d3_109 : decode prog_31_method_9_code 109 = .ok (.iload_n 3, 1) := by decide +kernel
theorem d3_110 : decode prog_31_method_9_code 110 = .ok (.sipush 240, 3) := by decide +kernel
theorem d3_113 : decode prog_31_method_9_code 113 = .ok (.if_icmp .ne 9, 3) := by decide +kernel
theorem d3_116 : decode prog_31_method_9_code 116 = .ok (.sipush 144, 3) := by decide +kernel
theorem d3_119 : decode prog_31_method_9_code 119 = .ok (.goto 5, 3) := by decide +kernel
theorem d3_122 : decode prog_31_method_9_code 122 = .ok (.iload 5, 2) := by decide +kernel
theorem d3_124 : decode prog_31_method_9_code 124 = .ok (.istore 5, 2) := by decide +kernel
theorem d3_126 : decode prog_31_method_9_code 126 = .ok (.iload_n 3, 1) := by decide +kernel
theorem d3_127 : decode prog_31_method_9_code 127 = .ok (.sipush 244, 3) := by decide +kernel
theorem d3_130 : decode prog_31_method_9_code 130 = .ok (.if_icmp .ne 9, 3) := by decide +kernel
theorem d3_133 : decode prog_31_method_9_code 133 = .ok (.sipush 143, 3) := by decide +kernel
theorem d3_136 : decode prog_31_method_9_code 136 = .ok (.goto 5, 3) := by decide +kernel
theorem d3_139 : decode prog_31_method_9_code 139 = .ok (.iload 6, 2) := by decide +kernel
theorem d3_141 : decode prog_31_method_9_code 141 = .ok (.istore 6, 2) := by decide +kernel
theorem d3_143 : decode prog_31_method_9_code 143 = .ok (.goto 7, 3) := by decide +kernel
theorem d3_146 : decode prog_31_method_9_code 146 = .ok (.iload_n 1, 1) := by decide +kernel
theorem d3_147 : decode prog_31_method_9_code 147 = .ok (.iconst (-1), 1) := by decide +kernel
theorem d3_148 : decode prog_31_method_9_code 148 = .ok (.ixor, 1) := by decide +kernel
theorem d3_149 : decode prog_31_method_9_code 149 = .ok (.ireturn, 1) := by decide +kernel
theorem d3_150 : decode prog_31_method_9_code 150 = .ok (.iload_n 1, 1) := by decide +kernel
theorem d3_151 : decode prog_31_method_9_code 151 = .ok (.iconst 1, 1) := by decide +kernel
theorem d3_152 : decode prog_31_method_9_code 152 = .ok (.iadd, 1) := by decide +kernel
theorem d3_153 : decode prog_31_method_9_code 153 = .ok (.istore 7, 2) := by decide +kernel
theorem d3_155 : decode prog_31_method_9_code 155 = .ok (.iload 7, 2) := by decide +kernel
theorem d3_157 : decode prog_31_method_9_code 157 = .ok (.iload_n 1, 1) := by decide +kernel
theorem d3_158 : decode prog_31_method_9_code 158 = .ok (.iload 4, 2) := by decide +kernel
theorem d3_160 : decode prog_31_method_9_code 160 = .ok (.iadd, 1) := by decide +kernel
theorem d3_161 : decode prog_31_method_9_code 161 = .ok (.if_icmp .ge 58, 3) := by decide +kernel
theorem d3_164 : decode prog_31_method_9_code 164 = .ok (.iload 7, 2) := by decide +kernel
theorem d3_166 : decode prog_31_method_9_code 166 = .ok (.iload_n 2, 1) := by decide +kernel
theorem d3_167 : decode prog_31_method_9_code 167 = .ok (.if_icmp .ge 14, 3) := by decide +kernel
theorem d3_170 : decode prog_31_method_9_code 170 = .ok (.aload_n 0, 1) := by decide +kernel
theorem d3_171 : decode prog_31_method_9_code 171 = .ok (.iload 7, 2) := by decide +kernel
theorem d3_173 : decode prog_31_method_9_code 173 = .ok (.baload, 1) := by decide +kernel
theorem d3_174 : decode prog_31_method_9_code 174 = .ok (.sipush 255, 3) := by decide +kernel
theorem d3_177 : decode prog_31_method_9_code 177 = .ok (.iand, 1) := by decide +kernel
theorem d3_178 : decode prog_31_method_9_code 178 = .ok (.goto 4, 3) := by decide +kernel
theorem d3_181 : decode prog_31_method_9_code 181 = .ok (.iconst (-1), 1) := by decide +kernel
theorem d3_182 : decode prog_31_method_9_code 182 = .ok (.istore 8, 2) := by decide +kernel
theorem d3_184 : decode prog_31_method_9_code 184 = .ok (.iload 8, 2) := by decide +kernel
theorem d3_186 : decode prog_31_method_9_code 186 = .ok (.iload 5, 2) := by decide +kernel
theorem d3_188 : decode prog_31_method_9_code 188 = .ok (.if_icmp .lt 10, 3) := by decide +kernel
theorem d3_191 : decode prog_31_method_9_code 191 = .ok (.iload 8, 2) := by decide +kernel
theorem d3_193 : decode prog_31_method_9_code 193 = .ok (.iload 6, 2) := by decide +kernel
theorem d3_195 : decode prog_31_method_9_code 195 = .ok (.if_icmp .le 8, 3) := by decide +kernel
theorem d3_198 : decode prog_31_method_9_code 198 = .ok (.iload 7, 2) := by decide +kernel
theorem d3_200 : decode prog_31_method_9_code 200 = .ok (.iconst (-1), 1) := by decide +kernel
theorem d3_201 : decode prog_31_method_9_code 201 = .ok (.ixor, 1) := by decide +kernel
theorem d3_202 : decode prog_31_method_9_code 202 = .ok (.ireturn, 1) := by decide +kernel
theorem d3_203 : decode prog_31_method_9_code 203 = .ok (.sipush 128, 3) := by decide +kernel
theorem d3_206 : decode prog_31_method_9_code 206 = .ok (.istore 5, 2) := by decide +kernel
theorem d3_208 : decode prog_31_method_9_code 208 = .ok (.sipush 191, 3) := by decide +kernel
theorem d3_211 : decode prog_31_method_9_code 211 = .ok (.istore 6, 2) := by decide +kernel
theorem d3_213 : decode prog_31_method_9_code 213 = .ok (.iinc 7 1, 3) := by decide +kernel
theorem d3_216 : decode prog_31_method_9_code 216 = .ok (.goto (-61), 3) := by decide +kernel
theorem d3_219 : decode prog_31_method_9_code 219 = .ok (.iload_n 1, 1) := by decide +kernel
theorem d3_220 : decode prog_31_method_9_code 220 = .ok (.iload 4, 2) := by decide +kernel
theorem d3_222 : decode prog_31_method_9_code 222 = .ok (.iadd, 1) := by decide +kernel
theorem d3_223 : decode prog_31_method_9_code 223 = .ok (.ireturn, 1) := by decide +kernel
theorem pn_0 : plainName "com/example/terseform/terseform/codec/CborTextStringUtf8SequenceEndPinLaw" = true := by first | (simp [plainName, overriddenIn]; done) | decide +kernel
theorem pn_1 : plainName "com/example/terseform/terseform/codec/CborTextString" = true := by first | (simp [plainName, overriddenIn]; done) | decide +kernel
theorem pd_0 : parseMethodDescriptor "(I)I" = some ⟨[.int], some .int⟩ := by decide +kernel
theorem pd_1 : parseMethodDescriptor "(IIIIII)I" = some ⟨[.int, .int, .int, .int, .int, .int], some .int⟩ := by decide +kernel
theorem pd_2 : parseMethodDescriptor "([BII)I" = some ⟨[(.array .byte), .int, .int], some .int⟩ := by decide +kernel
theorem own_iv0 (z : Int32) (h0 : z < (194 : Int32)) : z < (224 : Int32) := by
  simp only [Int32.lt_iff_toInt_lt, ← Int32.toInt_inj, show (194 : Int32).toInt = 194 from by decide, show (224 : Int32).toInt = 224 from by decide] at *
  omega
theorem own_iv1 (z : Int32) (h0 : z < (194 : Int32)) : z < (240 : Int32) := by
  simp only [Int32.lt_iff_toInt_lt, ← Int32.toInt_inj, show (194 : Int32).toInt = 194 from by decide, show (240 : Int32).toInt = 240 from by decide] at *
  omega
theorem own_iv2 (z : Int32) (h0 : ¬ (z < (194 : Int32))) (h1 : (223 : Int32) < z) : ¬ (z < (224 : Int32)) := by
  simp only [Int32.lt_iff_toInt_lt, ← Int32.toInt_inj, show (194 : Int32).toInt = 194 from by decide, show (223 : Int32).toInt = 223 from by decide, show (224 : Int32).toInt = 224 from by decide] at *
  omega
theorem own_iv3 (z : Int32) (h0 : ¬ (z < (194 : Int32))) (h1 : (223 : Int32) < z) (h2 : (239 : Int32) < z) : ¬ (z < (240 : Int32)) := by
  simp only [Int32.lt_iff_toInt_lt, ← Int32.toInt_inj, show (194 : Int32).toInt = 194 from by decide, show (223 : Int32).toInt = 223 from by decide, show (239 : Int32).toInt = 239 from by decide, show (240 : Int32).toInt = 240 from by decide] at *
  omega
theorem own_fin {c : Int32} {n : Nat} (h0 : 0 ≤ c.toInt) (h1 : c.toInt < n) : ∃ k, k < n ∧ c = k.toInt32 := by
  have hn : ¬ c < 0 := by
    rw [Int32.lt_iff_toInt_lt]
    show ¬ c.toInt < 0
    omega
  exact ⟨c.toNatClampNeg, by have := nat_of hn; omega, (back32 hn).1.symm⟩
theorem own_modfin (x y : Int32) (n : Nat) (hy : y.toInt = n) (hn : 0 < n) : ∃ k, k < n ∧ (x &&& (2147483647 : Int32)) % y = k.toInt32 := by
  have h1 := c_mask x 2147483647 31 (by decide) (by decide)
  have h2 : 0 ≤ (x &&& (2147483647 : Int32)).toInt := by rw [h1]; omega
  have h3 := (c_iremV (x &&& (2147483647 : Int32)) y).1 h2 (by omega)
  exact own_fin h3.1 (by omega)
theorem own_nar1 {x : Int32} (h : x = 1) : nar .boolean x = 1 := by subst h; rfl
theorem own_n0 : nar .boolean (0 : Int32) = 0 := rfl
theorem own_n1 : nar .boolean (1 : Int32) = 1 := rfl
theorem own_m192 (c : Int32) (h0 : 0 ≤ c.toInt) (h1 : c.toInt < 256) : (c &&& (192 : Int32)) = (128 : Int32) ↔ (128 ≤ c.toInt ∧ c.toInt < 192) := by
  obtain ⟨k, hk, rfl⟩ := own_fin (n := 256) h0 (by omega)
  have all : ∀ k, k < 256 → ((k.toInt32 &&& (192 : Int32)) = (128 : Int32) ↔ (128 ≤ k.toInt32.toInt ∧ k.toInt32.toInt < 192)) := by decide +kernel
  exact all k hk
theorem own_p (x c : Int32) (h0 : 0 ≤ x.toInt) (h1 : x.toInt < 16) : ((x <<< ((6 : Int32) &&& 31)) ||| (c &&& (63 : Int32))).toInt = x.toInt * 64 + c.toInt % 64 := by
  have k6 : ((2 ^ 6 : Nat) : Int) = 64 := by decide
  have h2 := c_mask c 63 6 (by decide) (by decide)
  have h3 := c_ishl x 6 6 (by decide)
  rw [k6] at h2 h3
  have r3 := rng32 (x <<< ((6 : Int32) &&& 31))
  generalize (x <<< ((6 : Int32) &&& 31)) = sh at *
  generalize (c &&& (63 : Int32)) = m at *
  have h4 := c_or sh m 6 (by decide) 64 (by decide) (by omega) (by omega) (by omega)
  have r4 := rng32 (sh ||| m)
  omega
theorem own_b255 (x : Int32) (h0 : 0 ≤ x.toInt) (h1 : x.toInt < 256) : (nar .byte (x.toInt8.toInt32)) &&& (255 : Int32) = x := by
  have k8 : ((2 ^ 8 : Nat) : Int) = 256 := by decide
  have h2 := c_i2b x
  have h3 := c_i2b x.toInt8.toInt32
  have h4 := c_mask x.toInt8.toInt32.toInt8.toInt32 255 8 (by decide) (by decide)
  rw [k8] at h4
  show x.toInt8.toInt32.toInt8.toInt32 &&& (255 : Int32) = x
  rw [← Int32.toInt_inj]
  omega
theorem own_or128 (x : Int32) (k : Nat) (hk : k ≤ 7) (m : Int32) (hm : m.toBitVec.toNat = 2 ^ k - 1) : 128 ≤ ((128 : Int32) ||| (x &&& m)).toInt ∧ ((128 : Int32) ||| (x &&& m)).toInt < 256 := by
  have h1 := c_mask x m k (by omega) hm
  have hp : (0 : Int) < ((2 ^ k : Nat) : Int) := by exact_mod_cast Nat.pos_of_ne_zero (by simp)
  have hq : ((2 ^ k : Nat) : Int) ≤ 128 := by
    have : 2 ^ k ≤ 2 ^ 7 := Nat.pow_le_pow_right (by decide) hk
    omega
  have h2 := Int.emod_nonneg x.toInt (b := ((2 ^ k : Nat) : Int)) (by omega)
  have h3 := Int.emod_lt_of_pos x.toInt (b := ((2 ^ k : Nat) : Int)) hp
  have k1 : (128 : Int32).toInt = 128 := by decide
  have h4 := c_or 128 (x &&& m) 7 (by decide) 128 (by decide) (by decide) (by omega) (by omega)
  have r4 := rng32 ((128 : Int32) ||| (x &&& m))
  omega
def own_j1_6_0 (i1 : Int32) : Int32 := (if (((i1.toUInt32 >>> ((8 : Int32) &&& 31).toUInt32).toInt32) &&& (1 : Int32)) = (0 : Int32) then (i1 &&& (255 : Int32)) else ((128 : Int32) ||| (i1 &&& (63 : Int32))))
def Q1 (Z : State) (i1 : Int32) (h0 : Heap) (n0 : Nat) (v : Option Value) (h : Heap) (L : List Loc) : Prop := v = some (.int (own_j1_6_0 i1)) ∧ Fr n0 L ∧ h = h0
theorem ef_1 (m : MethodId) (x0 : Int32) : entryFrame m #[(.int x0)] 1 = mkF m 0 #[.val (.int x0)] [] := by first | (simp [entryFrame, mkF, argsToLocals, Value.category]; done) | rfl
set_option maxRecDepth 65536 in
set_option maxHeartbeats 40000000 in
theorem rm1 (l : Launch) (Z : State) (a0 : Array Value) (hw : ∀ d ∈ tables_1, d.before a0 Z = true) (ws : List Jvm.Cond) (i1 : Int32) (h0 : Heap) (n0 : Nat) (Z0 : n0 ≤ h0.size) :
    MetFree l (⟨"com/example/terseform/terseform/codec/CborTextStringUtf8SequenceEndPinLaw", "cont", "(I)I"⟩ : MethodName) (head1 (Jvm.Cond.code (⟨"com/example/terseform/terseform/codec/CborTextStringUtf8SequenceEndPinLaw", "cont", "(I)I"⟩ : MethodName) method_3_code 1 (some .int) :: ws) ({ frames := 0, cells := 0, slots := 0, locals := 0 } : Room)) (fun a U => a = #[(.int i1)] ∧ Z.Warmed39 U.vm ∧ U.heap = h0) (fun _ _ _ _ _ => True) (fun _ U o U' => ∃ v L, o = .returned v ∧ Q1 Z i1 h0 n0 v U'.heap L ∧ FrameEnd U o U' L ({ frames := 0, cells := 0, slots := 0, locals := 0 } : Room).cells ({ frames := 0, cells := 0, slots := 0, locals := 0 } : Room).slots) := by
  refine MetFree.of_bodySF (plainFor_of_name pn_0) hisR ?_
  intro p e s m args below meth c s₁ Bd hml0 hP hK
  obtain ⟨rfl, hZ, hh⟩ := hP
  have hx := Bd.exec
  have hby := Bd.bytes
  have hml : c.maxLocals = 1 := hml0
  have hown : s.vm.findClass "com/example/terseform/terseform/codec/CborTextStringUtf8SequenceEndPinLaw" = some m.cls := findClass_of_methodNamed Bd.named
  have hnm := (name_of_methodNamed Bd.named Bd.method).1
  have X0 : Stand p l e ({ frames := 0, cells := 0, slots := 0, locals := 0 } : Room) s m #[(.int i1)] below meth c s₁ [] 0 0 := Stand.of_body Bd
  have e0 : s₁.heap = h0 := by rw [← hh, Bd.state]; rfl
  have N0 := Fr.nil n0
  have pre0 : ∀ t, Steps p.tables e below (s₁.setTop (mkF m 0 #[.val (.int i1)] [])) t → Steps p.tables e below (s₁.setTop (entryFrame m #[(.int i1)] 1)) t := fun t k => castTop (ef_1 m i1) k
  have pre1 : ∀ t, Steps p.tables e below (s₁.setTop (mkF m 6 #[.val (.int i1)] [(.int (((i1.toUInt32 >>> ((8 : Int32) &&& 31).toUInt32).toInt32) &&& (1 : Int32)))])) t → Steps p.tables e below (s₁.setTop (entryFrame m #[(.int i1)] 1)) t := by
    intro t k
    refine pre0 _ ?_
    show Steps p.tables e below (s₁.setTop (mkF m 0 #[.val (.int i1)] [])) _
    refine XS.iloadN X0.here hx rfl (hb hby d1_0) rfl ?_
    show Steps p.tables e below (s₁.setTop (mkF m 1 #[.val (.int i1)] [(.int i1)])) _
    refine XS.bipush X0.here hx rfl (hb hby d1_1) ?_
    show Steps p.tables e below (s₁.setTop (mkF m 3 #[.val (.int i1)] [(.int (8 : Int32)), (.int i1)])) _
    refine XS.iushr X0.here hx rfl (hb hby d1_3) rfl ?_
    show Steps p.tables e below (s₁.setTop (mkF m 4 #[.val (.int i1)] [(.int ((i1.toUInt32 >>> ((8 : Int32) &&& 31).toUInt32).toInt32))])) _
    refine XS.iconst X0.here hx rfl (hb hby d1_4) ?_
    show Steps p.tables e below (s₁.setTop (mkF m 5 #[.val (.int i1)] [(.int (1 : Int32)), (.int ((i1.toUInt32 >>> ((8 : Int32) &&& 31).toUInt32).toInt32))])) _
    refine XS.iand X0.here hx rfl (hb hby d1_5) rfl ?_
    exact k
  have pre5 : ∀ t, Steps p.tables e below (s₁.setTop (mkF m 25 #[.val (.int i1)] [(.int (own_j1_6_0 i1))])) t → Steps p.tables e below (s₁.setTop (entryFrame m #[(.int i1)] 1)) t := by
    by_cases hc6_2 : (((i1.toUInt32 >>> ((8 : Int32) &&& 31).toUInt32).toInt32) &&& (1 : Int32)) = (0 : Int32)
    · have pre3 : ∀ t, Steps p.tables e below (s₁.setTop (mkF m 25 #[.val (.int i1)] [(.int (i1 &&& (255 : Int32)))])) t → Steps p.tables e below (s₁.setTop (entryFrame m #[(.int i1)] 1)) t := by
        intro t k
        refine pre1 _ ?_
        show Steps p.tables e below (s₁.setTop (mkF m 6 #[.val (.int i1)] [(.int (((i1.toUInt32 >>> ((8 : Int32) &&& 31).toUInt32).toInt32) &&& (1 : Int32)))])) _
        refine XS.ifYes X0.here hx rfl (pc0 := 6) (pc' := 20) rfl (hb hby d1_6) rfl ((if0 _ _).trans (teq hc6_2).1) (by decide) (by decide) ?_
        show Steps p.tables e below (s₁.setTop (mkF m 20 #[.val (.int i1)] [])) _
        refine XS.iloadN X0.here hx rfl (hb hby d1_20) rfl ?_
        show Steps p.tables e below (s₁.setTop (mkF m 21 #[.val (.int i1)] [(.int i1)])) _
        refine XS.sipush X0.here hx rfl (hb hby d1_21) ?_
        show Steps p.tables e below (s₁.setTop (mkF m 24 #[.val (.int i1)] [(.int (255 : Int32)), (.int i1)])) _
        refine XS.iand X0.here hx rfl (hb hby d1_24) rfl ?_
        exact k
      exact fun t k => pre3 t (by rw [show (own_j1_6_0 i1) = (i1 &&& (255 : Int32)) from (if_pos hc6_2)] at k; exact k)
    · have pre4 : ∀ t, Steps p.tables e below (s₁.setTop (mkF m 25 #[.val (.int i1)] [(.int ((128 : Int32) ||| (i1 &&& (63 : Int32))))])) t → Steps p.tables e below (s₁.setTop (entryFrame m #[(.int i1)] 1)) t := by
        intro t k
        refine pre1 _ ?_
        show Steps p.tables e below (s₁.setTop (mkF m 6 #[.val (.int i1)] [(.int (((i1.toUInt32 >>> ((8 : Int32) &&& 31).toUInt32).toInt32) &&& (1 : Int32)))])) _
        refine XS.ifNo X0.here hx rfl (hb hby d1_6) rfl ((if0 _ _).trans (feq hc6_2).1) ?_
        show Steps p.tables e below (s₁.setTop (mkF m 9 #[.val (.int i1)] [])) _
        refine XS.sipush X0.here hx rfl (hb hby d1_9) ?_
        show Steps p.tables e below (s₁.setTop (mkF m 12 #[.val (.int i1)] [(.int (128 : Int32))])) _
        refine XS.iloadN X0.here hx rfl (hb hby d1_12) rfl ?_
        show Steps p.tables e below (s₁.setTop (mkF m 13 #[.val (.int i1)] [(.int i1), (.int (128 : Int32))])) _
        refine XS.bipush X0.here hx rfl (hb hby d1_13) ?_
        show Steps p.tables e below (s₁.setTop (mkF m 15 #[.val (.int i1)] [(.int (63 : Int32)), (.int i1), (.int (128 : Int32))])) _
        refine XS.iand X0.here hx rfl (hb hby d1_15) rfl ?_
        show Steps p.tables e below (s₁.setTop (mkF m 16 #[.val (.int i1)] [(.int (i1 &&& (63 : Int32))), (.int (128 : Int32))])) _
        refine XS.ior X0.here hx rfl (hb hby d1_16) rfl ?_
        show Steps p.tables e below (s₁.setTop (mkF m 17 #[.val (.int i1)] [(.int ((128 : Int32) ||| (i1 &&& (63 : Int32))))])) _
        refine XS.goto X0.here hx rfl (pc0 := 17) (pc' := 25) rfl (hb hby d1_17) (by decide) (by decide) ?_
        exact k
      exact fun t k => pre4 t (by rw [show (own_j1_6_0 i1) = ((128 : Int32) ||| (i1 &&& (63 : Int32))) from (if_neg hc6_2)] at k; exact k)
  obtain ⟨fs, hr, hrun, hended, hW, hsame⟩ := X0.leave (v := some (.int (own_j1_6_0 i1))) (fun h => by rw [Bd.returns] at h; cases h)
  refine ⟨_, _, pre5 _ ?_, hrun, hended, _, _, rfl, ?_, ⟨_, rfl⟩, hW, hsame.mono (by decide) (by decide)⟩
  · show Steps p.tables e below (s₁.setTop (mkF m 25 #[.val (.int i1)] [(.int (own_j1_6_0 i1))])) _
    exact retI X0 hx Bd.returns (hb hby d1_25) hr
  · show Q1 Z i1 h0 n0 _ s₁.heap _
    rw [e0]
    exact ⟨rfl, N0, rfl⟩
def own_j2_31_0 (i3 : Int32) : Int32 := (if (i3 &&& (31 : Int32)) < (2 : Int32) then (0 : Int32) else (1 : Int32))
def own_j2_75_0 (i3 : Int32) : Int32 := (if (4 : Int32) < (i3 &&& (7 : Int32)) then (0 : Int32) else (1 : Int32))
def own_j2_4_0 (i3 : Int32) : Int32 := (if i3 < (192 : Int32) then (0 : Int32) else (if i3 < (224 : Int32) then (2 : Int32) else (if i3 < (240 : Int32) then (3 : Int32) else (if i3 < (248 : Int32) then (4 : Int32) else (0 : Int32)))))
def own_j2_4_1 (i3 : Int32) : Int32 := (if i3 < (192 : Int32) then (0 : Int32) else (if i3 < (224 : Int32) then (own_j2_31_0 i3) else (if i3 < (240 : Int32) then (1 : Int32) else (if i3 < (248 : Int32) then (own_j2_75_0 i3) else (0 : Int32)))))
def own_j2_107_0 (i1 : Int32) (i2 : Int32) (i4 : Int32) : Int32 := (if (i1 + (1 : Int32)) < i2 then (if (i4 &&& (192 : Int32)) = (128 : Int32) then (1 : Int32) else (0 : Int32)) else (0 : Int32))
def own_j2_150_0 (i1 : Int32) (i2 : Int32) (i3 : Int32) (i4 : Int32) : Int32 := (if (own_j2_107_0 i1 i2 i4) = (0 : Int32) then (0 : Int32) else (if (((i3 &&& (15 : Int32)) <<< ((6 : Int32) &&& 31)) ||| (i4 &&& (63 : Int32))) < (32 : Int32) then (0 : Int32) else (if (((i3 &&& (15 : Int32)) <<< ((6 : Int32) &&& 31)) ||| (i4 &&& (63 : Int32))) < (864 : Int32) then (1 : Int32) else (if (895 : Int32) < (((i3 &&& (15 : Int32)) <<< ((6 : Int32) &&& 31)) ||| (i4 &&& (63 : Int32))) then (1 : Int32) else (0 : Int32)))))
def own_j2_208_0 (i1 : Int32) (i2 : Int32) (i3 : Int32) (i4 : Int32) : Int32 := (if (own_j2_107_0 i1 i2 i4) = (0 : Int32) then (0 : Int32) else (if (((i3 &&& (7 : Int32)) <<< ((6 : Int32) &&& 31)) ||| (i4 &&& (63 : Int32))) < (16 : Int32) then (0 : Int32) else (if (271 : Int32) < (((i3 &&& (7 : Int32)) <<< ((6 : Int32) &&& 31)) ||| (i4 &&& (63 : Int32))) then (0 : Int32) else (1 : Int32))))
def own_j2_131_0 (i1 : Int32) (i2 : Int32) (i3 : Int32) (i4 : Int32) : Int32 := (if (own_j2_4_0 i3) = (3 : Int32) then (own_j2_150_0 i1 i2 i3 i4) else (if (own_j2_4_0 i3) = (4 : Int32) then (own_j2_208_0 i1 i2 i3 i4) else (own_j2_107_0 i1 i2 i4)))
def own_j2_131_1 (i3 : Int32) (i4 : Int32) : Slot := (if (own_j2_4_0 i3) = (3 : Int32) then (.val (.int (((i3 &&& (15 : Int32)) <<< ((6 : Int32) &&& 31)) ||| (i4 &&& (63 : Int32)))) : Slot) else (if (own_j2_4_0 i3) = (4 : Int32) then (.val (.int (((i3 &&& (7 : Int32)) <<< ((6 : Int32) &&& 31)) ||| (i4 &&& (63 : Int32)))) : Slot) else (.unset : Slot)))
def own_r2 (i1 : Int32) (i2 : Int32) (i3 : Int32) (i4 : Int32) (i5 : Int32) (i6 : Int32) : Int32 := (if (own_j2_4_1 i3) = (0 : Int32) then (i1 ^^^ (-1 : Int32)) else (if (own_j2_131_0 i1 i2 i3 i4) = (0 : Int32) then ((i1 + (1 : Int32)) ^^^ (-1 : Int32)) else (if (own_j2_4_0 i3) = (2 : Int32) then (i1 + (2 : Int32)) else (if (i1 + (2 : Int32)) < i2 then (if (i5 &&& (192 : Int32)) = (128 : Int32) then (if (own_j2_4_0 i3) = (3 : Int32) then (i1 + (3 : Int32)) else (if (i1 + (3 : Int32)) < i2 then (if (i6 &&& (192 : Int32)) = (128 : Int32) then (i1 + (4 : Int32)) else ((i1 + (3 : Int32)) ^^^ (-1 : Int32))) else ((i1 + (3 : Int32)) ^^^ (-1 : Int32)))) else ((i1 + (2 : Int32)) ^^^ (-1 : Int32))) else ((i1 + (2 : Int32)) ^^^ (-1 : Int32))))))
def Q2 (Z : State) (i1 : Int32) (i2 : Int32) (i3 : Int32) (i4 : Int32) (i5 : Int32) (i6 : Int32) (h0 : Heap) (n0 : Nat) (v : Option Value) (h : Heap) (L : List Loc) : Prop := v = some (.int (own_r2 i1 i2 i3 i4 i5 i6)) ∧ Fr n0 L ∧ h = h0
theorem ef_2 (m : MethodId) (x0 : Int32) (x1 : Int32) (x2 : Int32) (x3 : Int32) (x4 : Int32) (x5 : Int32) : entryFrame m #[(.int x0), (.int x1), (.int x2), (.int x3), (.int x4), (.int x5)] 10 = mkF m 0 #[.val (.int x0), .val (.int x1), .val (.int x2), .val (.int x3), .val (.int x4), .val (.int x5), .unset, .unset, .unset, .unset] [] := by first | (simp [entryFrame, mkF, argsToLocals, Value.category]; done) | rfl
set_option maxRecDepth 65536 in
set_option maxHeartbeats 40000000 in
theorem rm2 (l : Launch) (Z : State) (a0 : Array Value) (hw : ∀ d ∈ tables_1, d.before a0 Z = true) (ws : List Jvm.Cond) (i1 : Int32) (i2 : Int32) (i3 : Int32) (i4 : Int32) (i5 : Int32) (i6 : Int32) (h0 : Heap) (n0 : Nat) (Z0 : n0 ≤ h0.size) :
    MetFree l (⟨"com/example/terseform/terseform/codec/CborTextStringUtf8SequenceEndPinLaw", "expected", "(IIIIII)I"⟩ : MethodName) (head1 (Jvm.Cond.code (⟨"com/example/terseform/terseform/codec/CborTextStringUtf8SequenceEndPinLaw", "expected", "(IIIIII)I"⟩ : MethodName) method_4_code 10 (some .int) :: ws) ({ frames := 0, cells := 0, slots := 0, locals := 0 } : Room)) (fun a U => a = #[(.int i1), (.int i2), (.int i3), (.int i4), (.int i5), (.int i6)] ∧ Z.Warmed39 U.vm ∧ U.heap = h0) (fun _ _ _ _ _ => True) (fun _ U o U' => ∃ v L, o = .returned v ∧ Q2 Z i1 i2 i3 i4 i5 i6 h0 n0 v U'.heap L ∧ FrameEnd U o U' L ({ frames := 0, cells := 0, slots := 0, locals := 0 } : Room).cells ({ frames := 0, cells := 0, slots := 0, locals := 0 } : Room).slots) := by
  refine MetFree.of_bodySF (plainFor_of_name pn_0) hisR ?_
  intro p e s m args below meth c s₁ Bd hml0 hP hK
  obtain ⟨rfl, hZ, hh⟩ := hP
  have hx := Bd.exec
  have hby := Bd.bytes
  have hml : c.maxLocals = 10 := hml0
  have hown : s.vm.findClass "com/example/terseform/terseform/codec/CborTextStringUtf8SequenceEndPinLaw" = some m.cls := findClass_of_methodNamed Bd.named
  have hnm := (name_of_methodNamed Bd.named Bd.method).1
  have X0 : Stand p l e ({ frames := 0, cells := 0, slots := 0, locals := 0 } : Room) s m #[(.int i1), (.int i2), (.int i3), (.int i4), (.int i5), (.int i6)] below meth c s₁ [] 0 0 := Stand.of_body Bd
  have e0 : s₁.heap = h0 := by rw [← hh, Bd.state]; rfl
  have N0 := Fr.nil n0
  have pre0 : ∀ t, Steps p.tables e below (s₁.setTop (mkF m 0 #[.val (.int i1), .val (.int i2), .val (.int i3), .val (.int i4), .val (.int i5), .val (.int i6), .unset, .unset, .unset, .unset] [])) t → Steps p.tables e below (s₁.setTop (entryFrame m #[(.int i1), (.int i2), (.int i3), (.int i4), (.int i5), (.int i6)] 10)) t := fun t k => castTop (ef_2 m i1 i2 i3 i4 i5 i6) k
  have pre1 : ∀ t, Steps p.tables e below (s₁.setTop (mkF m 4 #[.val (.int i1), .val (.int i2), .val (.int i3), .val (.int i4), .val (.int i5), .val (.int i6), .unset, .unset, .unset, .unset] [(.int (192 : Int32)), (.int i3)])) t → Steps p.tables e below (s₁.setTop (entryFrame m #[(.int i1), (.int i2), (.int i3), (.int i4), (.int i5), (.int i6)] 10)) t := by
    intro t k
    refine pre0 _ ?_
    show Steps p.tables e below (s₁.setTop (mkF m 0 #[.val (.int i1), .val (.int i2), .val (.int i3), .val (.int i4), .val (.int i5), .val (.int i6), .unset, .unset, .unset, .unset] [])) _
    refine XS.iloadN X0.here hx rfl (hb hby d2_0) rfl ?_
    show Steps p.tables e below (s₁.setTop (mkF m 1 #[.val (.int i1), .val (.int i2), .val (.int i3), .val (.int i4), .val (.int i5), .val (.int i6), .unset, .unset, .unset, .unset] [(.int i3)])) _
    refine XS.sipush X0.here hx rfl (hb hby d2_1) ?_
    exact k
  have pre24 : ∀ t, Steps p.tables e below (s₁.setTop (mkF m 94 #[.val (.int i1), .val (.int i2), .val (.int i3), .val (.int i4), .val (.int i5), .val (.int i6), .val (.int (own_j2_4_0 i3)), .val (.int (own_j2_4_1 i3)), .unset, .unset] [])) t → Steps p.tables e below (s₁.setTop (entryFrame m #[(.int i1), (.int i2), (.int i3), (.int i4), (.int i5), (.int i6)] 10)) t := by
    by_cases hc4_2 : i3 < (192 : Int32)
    · have pre3 : ∀ t, Steps p.tables e below (s₁.setTop (mkF m 94 #[.val (.int i1), .val (.int i2), .val (.int i3), .val (.int i4), .val (.int i5), .val (.int i6), .val (.int (0 : Int32)), .val (.int (0 : Int32)), .unset, .unset] [])) t → Steps p.tables e below (s₁.setTop (entryFrame m #[(.int i1), (.int i2), (.int i3), (.int i4), (.int i5), (.int i6)] 10)) t := by
        intro t k
        refine pre1 _ ?_
        show Steps p.tables e below (s₁.setTop (mkF m 4 #[.val (.int i1), .val (.int i2), .val (.int i3), .val (.int i4), .val (.int i5), .val (.int i6), .unset, .unset, .unset, .unset] [(.int (192 : Int32)), (.int i3)])) _
        refine XS.icmpNo X0.here hx rfl (hb hby d2_4) rfl (tlt hc4_2).2.1 ?_
        show Steps p.tables e below (s₁.setTop (mkF m 7 #[.val (.int i1), .val (.int i2), .val (.int i3), .val (.int i4), .val (.int i5), .val (.int i6), .unset, .unset, .unset, .unset] [])) _
        refine XS.iconst X0.here hx rfl (hb hby d2_7) ?_
        show Steps p.tables e below (s₁.setTop (mkF m 8 #[.val (.int i1), .val (.int i2), .val (.int i3), .val (.int i4), .val (.int i5), .val (.int i6), .unset, .unset, .unset, .unset] [(.int (0 : Int32))])) _
        refine XS.istore X0.here hx rfl (hb hby d2_8) rfl (l' := #[.val (.int i1), .val (.int i2), .val (.int i3), .val (.int i4), .val (.int i5), .val (.int i6), .val (.int (0 : Int32)), .unset, .unset, .unset]) rfl ?_
        show Steps p.tables e below (s₁.setTop (mkF m 10 #[.val (.int i1), .val (.int i2), .val (.int i3), .val (.int i4), .val (.int i5), .val (.int i6), .val (.int (0 : Int32)), .unset, .unset, .unset] [])) _
        refine XS.iconst X0.here hx rfl (hb hby d2_10) ?_
        show Steps p.tables e below (s₁.setTop (mkF m 11 #[.val (.int i1), .val (.int i2), .val (.int i3), .val (.int i4), .val (.int i5), .val (.int i6), .val (.int (0 : Int32)), .unset, .unset, .unset] [(.int (0 : Int32))])) _
        refine XS.istore X0.here hx rfl (hb hby d2_11) rfl (l' := #[.val (.int i1), .val (.int i2), .val (.int i3), .val (.int i4), .val (.int i5), .val (.int i6), .val (.int (0 : Int32)), .val (.int (0 : Int32)), .unset, .unset]) rfl ?_
        show Steps p.tables e below (s₁.setTop (mkF m 13 #[.val (.int i1), .val (.int i2), .val (.int i3), .val (.int i4), .val (.int i5), .val (.int i6), .val (.int (0 : Int32)), .val (.int (0 : Int32)), .unset, .unset] [])) _
        refine XS.goto X0.here hx rfl (pc0 := 13) (pc' := 94) rfl (hb hby d2_13) (by decide) (by decide) ?_
        exact k
      exact fun t k => pre3 t (by rw [show (own_j2_4_0 i3) = (0 : Int32) from (if_pos hc4_2)] at k; rw [show (own_j2_4_1 i3) = (0 : Int32) from (if_pos hc4_2)] at k; exact k)
    · have pre4 : ∀ t, Steps p.tables e below (s₁.setTop (mkF m 20 #[.val (.int i1), .val (.int i2), .val (.int i3), .val (.int i4), .val (.int i5), .val (.int i6), .unset, .unset, .unset, .unset] [(.int (224 : Int32)), (.int i3)])) t → Steps p.tables e below (s₁.setTop (entryFrame m #[(.int i1), (.int i2), (.int i3), (.int i4), (.int i5), (.int i6)] 10)) t := by
        intro t k
        refine pre1 _ ?_
        show Steps p.tables e below (s₁.setTop (mkF m 4 #[.val (.int i1), .val (.int i2), .val (.int i3), .val (.int i4), .val (.int i5), .val (.int i6), .unset, .unset, .unset, .unset] [(.int (192 : Int32)), (.int i3)])) _
        refine XS.icmpYes X0.here hx rfl (pc0 := 4) (pc' := 16) rfl (hb hby d2_4) rfl (flt hc4_2).2.1 (by decide) (by decide) ?_
        show Steps p.tables e below (s₁.setTop (mkF m 16 #[.val (.int i1), .val (.int i2), .val (.int i3), .val (.int i4), .val (.int i5), .val (.int i6), .unset, .unset, .unset, .unset] [])) _
        refine XS.iloadN X0.here hx rfl (hb hby d2_16) rfl ?_
        show Steps p.tables e below (s₁.setTop (mkF m 17 #[.val (.int i1), .val (.int i2), .val (.int i3), .val (.int i4), .val (.int i5), .val (.int i6), .unset, .unset, .unset, .unset] [(.int i3)])) _
        refine XS.sipush X0.here hx rfl (hb hby d2_17) ?_
        exact k
      by_cases hc20_5 : i3 < (224 : Int32)
      · have pre6 : ∀ t, Steps p.tables e below (s₁.setTop (mkF m 31 #[.val (.int i1), .val (.int i2), .val (.int i3), .val (.int i4), .val (.int i5), .val (.int i6), .val (.int (2 : Int32)), .unset, .unset, .unset] [(.int (2 : Int32)), (.int (i3 &&& (31 : Int32)))])) t → Steps p.tables e below (s₁.setTop (entryFrame m #[(.int i1), (.int i2), (.int i3), (.int i4), (.int i5), (.int i6)] 10)) t := by
          intro t k
          refine pre4 _ ?_
          show Steps p.tables e below (s₁.setTop (mkF m 20 #[.val (.int i1), .val (.int i2), .val (.int i3), .val (.int i4), .val (.int i5), .val (.int i6), .unset, .unset, .unset, .unset] [(.int (224 : Int32)), (.int i3)])) _
          refine XS.icmpNo X0.here hx rfl (hb hby d2_20) rfl (tlt hc20_5).2.1 ?_
          show Steps p.tables e below (s₁.setTop (mkF m 23 #[.val (.int i1), .val (.int i2), .val (.int i3), .val (.int i4), .val (.int i5), .val (.int i6), .unset, .unset, .unset, .unset] [])) _
          refine XS.iconst X0.here hx rfl (hb hby d2_23) ?_
          show Steps p.tables e below (s₁.setTop (mkF m 24 #[.val (.int i1), .val (.int i2), .val (.int i3), .val (.int i4), .val (.int i5), .val (.int i6), .unset, .unset, .unset, .unset] [(.int (2 : Int32))])) _
          refine XS.istore X0.here hx rfl (hb hby d2_24) rfl (l' := #[.val (.int i1), .val (.int i2), .val (.int i3), .val (.int i4), .val (.int i5), .val (.int i6), .val (.int (2 : Int32)), .unset, .unset, .unset]) rfl ?_
          show Steps p.tables e below (s₁.setTop (mkF m 26 #[.val (.int i1), .val (.int i2), .val (.int i3), .val (.int i4), .val (.int i5), .val (.int i6), .val (.int (2 : Int32)), .unset, .unset, .unset] [])) _
          refine XS.iloadN X0.here hx rfl (hb hby d2_26) rfl ?_
          show Steps p.tables e below (s₁.setTop (mkF m 27 #[.val (.int i1), .val (.int i2), .val (.int i3), .val (.int i4), .val (.int i5), .val (.int i6), .val (.int (2 : Int32)), .unset, .unset, .unset] [(.int i3)])) _
          refine XS.bipush X0.here hx rfl (hb hby d2_27) ?_
          show Steps p.tables e below (s₁.setTop (mkF m 29 #[.val (.int i1), .val (.int i2), .val (.int i3), .val (.int i4), .val (.int i5), .val (.int i6), .val (.int (2 : Int32)), .unset, .unset, .unset] [(.int (31 : Int32)), (.int i3)])) _
          refine XS.iand X0.here hx rfl (hb hby d2_29) rfl ?_
          show Steps p.tables e below (s₁.setTop (mkF m 30 #[.val (.int i1), .val (.int i2), .val (.int i3), .val (.int i4), .val (.int i5), .val (.int i6), .val (.int (2 : Int32)), .unset, .unset, .unset] [(.int (i3 &&& (31 : Int32)))])) _
          refine XS.iconst X0.here hx rfl (hb hby d2_30) ?_
          exact k
        have pre10 : ∀ t, Steps p.tables e below (s₁.setTop (mkF m 39 #[.val (.int i1), .val (.int i2), .val (.int i3), .val (.int i4), .val (.int i5), .val (.int i6), .val (.int (2 : Int32)), .unset, .unset, .unset] [(.int (own_j2_31_0 i3))])) t → Steps p.tables e below (s₁.setTop (entryFrame m #[(.int i1), (.int i2), (.int i3), (.int i4), (.int i5), (.int i6)] 10)) t := by
          by_cases hc31_7 : (i3 &&& (31 : Int32)) < (2 : Int32)
          · have pre8 : ∀ t, Steps p.tables e below (s₁.setTop (mkF m 39 #[.val (.int i1), .val (.int i2), .val (.int i3), .val (.int i4), .val (.int i5), .val (.int i6), .val (.int (2 : Int32)), .unset, .unset, .unset] [(.int (0 : Int32))])) t → Steps p.tables e below (s₁.setTop (entryFrame m #[(.int i1), (.int i2), (.int i3), (.int i4), (.int i5), (.int i6)] 10)) t := by
              intro t k
              refine pre6 _ ?_
              show Steps p.tables e below (s₁.setTop (mkF m 31 #[.val (.int i1), .val (.int i2), .val (.int i3), .val (.int i4), .val (.int i5), .val (.int i6), .val (.int (2 : Int32)), .unset, .unset, .unset] [(.int (2 : Int32)), (.int (i3 &&& (31 : Int32)))])) _
              refine XS.icmpYes X0.here hx rfl (pc0 := 31) (pc' := 38) rfl (hb hby d2_31) rfl (tlt hc31_7).1 (by decide) (by decide) ?_
              show Steps p.tables e below (s₁.setTop (mkF m 38 #[.val (.int i1), .val (.int i2), .val (.int i3), .val (.int i4), .val (.int i5), .val (.int i6), .val (.int (2 : Int32)), .unset, .unset, .unset] [])) _
              refine XS.iconst X0.here hx rfl (hb hby d2_38) ?_
              exact k
            exact fun t k => pre8 t (by rw [show (own_j2_31_0 i3) = (0 : Int32) from (if_pos hc31_7)] at k; exact k)
          · have pre9 : ∀ t, Steps p.tables e below (s₁.setTop (mkF m 39 #[.val (.int i1), .val (.int i2), .val (.int i3), .val (.int i4), .val (.int i5), .val (.int i6), .val (.int (2 : Int32)), .unset, .unset, .unset] [(.int (1 : Int32))])) t → Steps p.tables e below (s₁.setTop (entryFrame m #[(.int i1), (.int i2), (.int i3), (.int i4), (.int i5), (.int i6)] 10)) t := by
              intro t k
              refine pre6 _ ?_
              show Steps p.tables e below (s₁.setTop (mkF m 31 #[.val (.int i1), .val (.int i2), .val (.int i3), .val (.int i4), .val (.int i5), .val (.int i6), .val (.int (2 : Int32)), .unset, .unset, .unset] [(.int (2 : Int32)), (.int (i3 &&& (31 : Int32)))])) _
              refine XS.icmpNo X0.here hx rfl (hb hby d2_31) rfl (flt hc31_7).1 ?_
              show Steps p.tables e below (s₁.setTop (mkF m 34 #[.val (.int i1), .val (.int i2), .val (.int i3), .val (.int i4), .val (.int i5), .val (.int i6), .val (.int (2 : Int32)), .unset, .unset, .unset] [])) _
              refine XS.iconst X0.here hx rfl (hb hby d2_34) ?_
              show Steps p.tables e below (s₁.setTop (mkF m 35 #[.val (.int i1), .val (.int i2), .val (.int i3), .val (.int i4), .val (.int i5), .val (.int i6), .val (.int (2 : Int32)), .unset, .unset, .unset] [(.int (1 : Int32))])) _
              refine XS.goto X0.here hx rfl (pc0 := 35) (pc' := 39) rfl (hb hby d2_35) (by decide) (by decide) ?_
              exact k
            exact fun t k => pre9 t (by rw [show (own_j2_31_0 i3) = (1 : Int32) from (if_neg hc31_7)] at k; exact k)
        have pre11 : ∀ t, Steps p.tables e below (s₁.setTop (mkF m 94 #[.val (.int i1), .val (.int i2), .val (.int i3), .val (.int i4), .val (.int i5), .val (.int i6), .val (.int (2 : Int32)), .val (.int (own_j2_31_0 i3)), .unset, .unset] [])) t → Steps p.tables e below (s₁.setTop (entryFrame m #[(.int i1), (.int i2), (.int i3), (.int i4), (.int i5), (.int i6)] 10)) t := by
          intro t k
          refine pre10 _ ?_
          show Steps p.tables e below (s₁.setTop (mkF m 39 #[.val (.int i1), .val (.int i2), .val (.int i3), .val (.int i4), .val (.int i5), .val (.int i6), .val (.int (2 : Int32)), .unset, .unset, .unset] [(.int (own_j2_31_0 i3))])) _
          refine XS.istore X0.here hx rfl (hb hby d2_39) rfl (l' := #[.val (.int i1), .val (.int i2), .val (.int i3), .val (.int i4), .val (.int i5), .val (.int i6), .val (.int (2 : Int32)), .val (.int (own_j2_31_0 i3)), .unset, .unset]) rfl ?_
          show Steps p.tables e below (s₁.setTop (mkF m 41 #[.val (.int i1), .val (.int i2), .val (.int i3), .val (.int i4), .val (.int i5), .val (.int i6), .val (.int (2 : Int32)), .val (.int (own_j2_31_0 i3)), .unset, .unset] [])) _
          refine XS.goto X0.here hx rfl (pc0 := 41) (pc' := 94) rfl (hb hby d2_41) (by decide) (by decide) ?_
          exact k
        exact fun t k => pre11 t (by rw [show (own_j2_4_0 i3) = (2 : Int32) from ((if_neg hc4_2).trans (if_pos hc20_5))] at k; rw [show (own_j2_4_1 i3) = (own_j2_31_0 i3) from ((if_neg hc4_2).trans (if_pos hc20_5))] at k; exact k)
      · have pre12 : ∀ t, Steps p.tables e below (s₁.setTop (mkF m 48 #[.val (.int i1), .val (.int i2), .val (.int i3), .val (.int i4), .val (.int i5), .val (.int i6), .unset, .unset, .unset, .unset] [(.int (240 : Int32)), (.int i3)])) t → Steps p.tables e below (s₁.setTop (entryFrame m #[(.int i1), (.int i2), (.int i3), (.int i4), (.int i5), (.int i6)] 10)) t := by
          intro t k
          refine pre4 _ ?_
          show Steps p.tables e below (s₁.setTop (mkF m 20 #[.val (.int i1), .val (.int i2), .val (.int i3), .val (.int i4), .val (.int i5), .val (.int i6), .unset, .unset, .unset, .unset] [(.int (224 : Int32)), (.int i3)])) _
          refine XS.icmpYes X0.here hx rfl (pc0 := 20) (pc' := 44) rfl (hb hby d2_20) rfl (flt hc20_5).2.1 (by decide) (by decide) ?_
          show Steps p.tables e below (s₁.setTop (mkF m 44 #[.val (.int i1), .val (.int i2), .val (.int i3), .val (.int i4), .val (.int i5), .val (.int i6), .unset, .unset, .unset, .unset] [])) _
          refine XS.iloadN X0.here hx rfl (hb hby d2_44) rfl ?_
          show Steps p.tables e below (s₁.setTop (mkF m 45 #[.val (.int i1), .val (.int i2), .val (.int i3), .val (.int i4), .val (.int i5), .val (.int i6), .unset, .unset, .unset, .unset] [(.int i3)])) _
          refine XS.sipush X0.here hx rfl (hb hby d2_45) ?_
          exact k
        by_cases hc48_13 : i3 < (240 : Int32)
        · have pre14 : ∀ t, Steps p.tables e below (s₁.setTop (mkF m 94 #[.val (.int i1), .val (.int i2), .val (.int i3), .val (.int i4), .val (.int i5), .val (.int i6), .val (.int (3 : Int32)), .val (.int (1 : Int32)), .unset, .unset] [])) t → Steps p.tables e below (s₁.setTop (entryFrame m #[(.int i1), (.int i2), (.int i3), (.int i4), (.int i5), (.int i6)] 10)) t := by
            intro t k
            refine pre12 _ ?_
            show Steps p.tables e below (s₁.setTop (mkF m 48 #[.val (.int i1), .val (.int i2), .val (.int i3), .val (.int i4), .val (.int i5), .val (.int i6), .unset, .unset, .unset, .unset] [(.int (240 : Int32)), (.int i3)])) _
            refine XS.icmpNo X0.here hx rfl (hb hby d2_48) rfl (tlt hc48_13).2.1 ?_
            show Steps p.tables e below (s₁.setTop (mkF m 51 #[.val (.int i1), .val (.int i2), .val (.int i3), .val (.int i4), .val (.int i5), .val (.int i6), .unset, .unset, .unset, .unset] [])) _
            refine XS.iconst X0.here hx rfl (hb hby d2_51) ?_
            show Steps p.tables e below (s₁.setTop (mkF m 52 #[.val (.int i1), .val (.int i2), .val (.int i3), .val (.int i4), .val (.int i5), .val (.int i6), .unset, .unset, .unset, .unset] [(.int (3 : Int32))])) _
            refine XS.istore X0.here hx rfl (hb hby d2_52) rfl (l' := #[.val (.int i1), .val (.int i2), .val (.int i3), .val (.int i4), .val (.int i5), .val (.int i6), .val (.int (3 : Int32)), .unset, .unset, .unset]) rfl ?_
            show Steps p.tables e below (s₁.setTop (mkF m 54 #[.val (.int i1), .val (.int i2), .val (.int i3), .val (.int i4), .val (.int i5), .val (.int i6), .val (.int (3 : Int32)), .unset, .unset, .unset] [])) _
            refine XS.iconst X0.here hx rfl (hb hby d2_54) ?_
            show Steps p.tables e below (s₁.setTop (mkF m 55 #[.val (.int i1), .val (.int i2), .val (.int i3), .val (.int i4), .val (.int i5), .val (.int i6), .val (.int (3 : Int32)), .unset, .unset, .unset] [(.int (1 : Int32))])) _
            refine XS.istore X0.here hx rfl (hb hby d2_55) rfl (l' := #[.val (.int i1), .val (.int i2), .val (.int i3), .val (.int i4), .val (.int i5), .val (.int i6), .val (.int (3 : Int32)), .val (.int (1 : Int32)), .unset, .unset]) rfl ?_
            show Steps p.tables e below (s₁.setTop (mkF m 57 #[.val (.int i1), .val (.int i2), .val (.int i3), .val (.int i4), .val (.int i5), .val (.int i6), .val (.int (3 : Int32)), .val (.int (1 : Int32)), .unset, .unset] [])) _
            refine XS.goto X0.here hx rfl (pc0 := 57) (pc' := 94) rfl (hb hby d2_57) (by decide) (by decide) ?_
            exact k
          exact fun t k => pre14 t (by rw [show (own_j2_4_0 i3) = (3 : Int32) from ((if_neg hc4_2).trans ((if_neg hc20_5).trans (if_pos hc48_13)))] at k; rw [show (own_j2_4_1 i3) = (1 : Int32) from ((if_neg hc4_2).trans ((if_neg hc20_5).trans (if_pos hc48_13)))] at k; exact k)
        · have pre15 : ∀ t, Steps p.tables e below (s₁.setTop (mkF m 64 #[.val (.int i1), .val (.int i2), .val (.int i3), .val (.int i4), .val (.int i5), .val (.int i6), .unset, .unset, .unset, .unset] [(.int (248 : Int32)), (.int i3)])) t → Steps p.tables e below (s₁.setTop (entryFrame m #[(.int i1), (.int i2), (.int i3), (.int i4), (.int i5), (.int i6)] 10)) t := by
            intro t k
            refine pre12 _ ?_
            show Steps p.tables e below (s₁.setTop (mkF m 48 #[.val (.int i1), .val (.int i2), .val (.int i3), .val (.int i4), .val (.int i5), .val (.int i6), .unset, .unset, .unset, .unset] [(.int (240 : Int32)), (.int i3)])) _
            refine XS.icmpYes X0.here hx rfl (pc0 := 48) (pc' := 60) rfl (hb hby d2_48) rfl (flt hc48_13).2.1 (by decide) (by decide) ?_
            show Steps p.tables e below (s₁.setTop (mkF m 60 #[.val (.int i1), .val (.int i2), .val (.int i3), .val (.int i4), .val (.int i5), .val (.int i6), .unset, .unset, .unset, .unset] [])) _
            refine XS.iloadN X0.here hx rfl (hb hby d2_60) rfl ?_
            show Steps p.tables e below (s₁.setTop (mkF m 61 #[.val (.int i1), .val (.int i2), .val (.int i3), .val (.int i4), .val (.int i5), .val (.int i6), .unset, .unset, .unset, .unset] [(.int i3)])) _
            refine XS.sipush X0.here hx rfl (hb hby d2_61) ?_
            exact k
          by_cases hc64_16 : i3 < (248 : Int32)
          · have pre17 : ∀ t, Steps p.tables e below (s₁.setTop (mkF m 75 #[.val (.int i1), .val (.int i2), .val (.int i3), .val (.int i4), .val (.int i5), .val (.int i6), .val (.int (4 : Int32)), .unset, .unset, .unset] [(.int (4 : Int32)), (.int (i3 &&& (7 : Int32)))])) t → Steps p.tables e below (s₁.setTop (entryFrame m #[(.int i1), (.int i2), (.int i3), (.int i4), (.int i5), (.int i6)] 10)) t := by
              intro t k
              refine pre15 _ ?_
              show Steps p.tables e below (s₁.setTop (mkF m 64 #[.val (.int i1), .val (.int i2), .val (.int i3), .val (.int i4), .val (.int i5), .val (.int i6), .unset, .unset, .unset, .unset] [(.int (248 : Int32)), (.int i3)])) _
              refine XS.icmpNo X0.here hx rfl (hb hby d2_64) rfl (tlt hc64_16).2.1 ?_
              show Steps p.tables e below (s₁.setTop (mkF m 67 #[.val (.int i1), .val (.int i2), .val (.int i3), .val (.int i4), .val (.int i5), .val (.int i6), .unset, .unset, .unset, .unset] [])) _
              refine XS.iconst X0.here hx rfl (hb hby d2_67) ?_
              show Steps p.tables e below (s₁.setTop (mkF m 68 #[.val (.int i1), .val (.int i2), .val (.int i3), .val (.int i4), .val (.int i5), .val (.int i6), .unset, .unset, .unset, .unset] [(.int (4 : Int32))])) _
              refine XS.istore X0.here hx rfl (hb hby d2_68) rfl (l' := #[.val (.int i1), .val (.int i2), .val (.int i3), .val (.int i4), .val (.int i5), .val (.int i6), .val (.int (4 : Int32)), .unset, .unset, .unset]) rfl ?_
              show Steps p.tables e below (s₁.setTop (mkF m 70 #[.val (.int i1), .val (.int i2), .val (.int i3), .val (.int i4), .val (.int i5), .val (.int i6), .val (.int (4 : Int32)), .unset, .unset, .unset] [])) _
              refine XS.iloadN X0.here hx rfl (hb hby d2_70) rfl ?_
              show Steps p.tables e below (s₁.setTop (mkF m 71 #[.val (.int i1), .val (.int i2), .val (.int i3), .val (.int i4), .val (.int i5), .val (.int i6), .val (.int (4 : Int32)), .unset, .unset, .unset] [(.int i3)])) _
              refine XS.bipush X0.here hx rfl (hb hby d2_71) ?_
              show Steps p.tables e below (s₁.setTop (mkF m 73 #[.val (.int i1), .val (.int i2), .val (.int i3), .val (.int i4), .val (.int i5), .val (.int i6), .val (.int (4 : Int32)), .unset, .unset, .unset] [(.int (7 : Int32)), (.int i3)])) _
              refine XS.iand X0.here hx rfl (hb hby d2_73) rfl ?_
              show Steps p.tables e below (s₁.setTop (mkF m 74 #[.val (.int i1), .val (.int i2), .val (.int i3), .val (.int i4), .val (.int i5), .val (.int i6), .val (.int (4 : Int32)), .unset, .unset, .unset] [(.int (i3 &&& (7 : Int32)))])) _
              refine XS.iconst X0.here hx rfl (hb hby d2_74) ?_
              exact k
            have pre21 : ∀ t, Steps p.tables e below (s₁.setTop (mkF m 83 #[.val (.int i1), .val (.int i2), .val (.int i3), .val (.int i4), .val (.int i5), .val (.int i6), .val (.int (4 : Int32)), .unset, .unset, .unset] [(.int (own_j2_75_0 i3))])) t → Steps p.tables e below (s₁.setTop (entryFrame m #[(.int i1), (.int i2), (.int i3), (.int i4), (.int i5), (.int i6)] 10)) t := by
              by_cases hc75_18 : (4 : Int32) < (i3 &&& (7 : Int32))
              · have pre19 : ∀ t, Steps p.tables e below (s₁.setTop (mkF m 83 #[.val (.int i1), .val (.int i2), .val (.int i3), .val (.int i4), .val (.int i5), .val (.int i6), .val (.int (4 : Int32)), .unset, .unset, .unset] [(.int (0 : Int32))])) t → Steps p.tables e below (s₁.setTop (entryFrame m #[(.int i1), (.int i2), (.int i3), (.int i4), (.int i5), (.int i6)] 10)) t := by
                  intro t k
                  refine pre17 _ ?_
                  show Steps p.tables e below (s₁.setTop (mkF m 75 #[.val (.int i1), .val (.int i2), .val (.int i3), .val (.int i4), .val (.int i5), .val (.int i6), .val (.int (4 : Int32)), .unset, .unset, .unset] [(.int (4 : Int32)), (.int (i3 &&& (7 : Int32)))])) _
                  refine XS.icmpYes X0.here hx rfl (pc0 := 75) (pc' := 82) rfl (hb hby d2_75) rfl (tlt hc75_18).2.2.1 (by decide) (by decide) ?_
                  show Steps p.tables e below (s₁.setTop (mkF m 82 #[.val (.int i1), .val (.int i2), .val (.int i3), .val (.int i4), .val (.int i5), .val (.int i6), .val (.int (4 : Int32)), .unset, .unset, .unset] [])) _
                  refine XS.iconst X0.here hx rfl (hb hby d2_82) ?_
                  exact k
                exact fun t k => pre19 t (by rw [show (own_j2_75_0 i3) = (0 : Int32) from (if_pos hc75_18)] at k; exact k)
              · have pre20 : ∀ t, Steps p.tables e below (s₁.setTop (mkF m 83 #[.val (.int i1), .val (.int i2), .val (.int i3), .val (.int i4), .val (.int i5), .val (.int i6), .val (.int (4 : Int32)), .unset, .unset, .unset] [(.int (1 : Int32))])) t → Steps p.tables e below (s₁.setTop (entryFrame m #[(.int i1), (.int i2), (.int i3), (.int i4), (.int i5), (.int i6)] 10)) t := by
                  intro t k
                  refine pre17 _ ?_
                  show Steps p.tables e below (s₁.setTop (mkF m 75 #[.val (.int i1), .val (.int i2), .val (.int i3), .val (.int i4), .val (.int i5), .val (.int i6), .val (.int (4 : Int32)), .unset, .unset, .unset] [(.int (4 : Int32)), (.int (i3 &&& (7 : Int32)))])) _
                  refine XS.icmpNo X0.here hx rfl (hb hby d2_75) rfl (flt hc75_18).2.2.1 ?_
                  show Steps p.tables e below (s₁.setTop (mkF m 78 #[.val (.int i1), .val (.int i2), .val (.int i3), .val (.int i4), .val (.int i5), .val (.int i6), .val (.int (4 : Int32)), .unset, .unset, .unset] [])) _
                  refine XS.iconst X0.here hx rfl (hb hby d2_78) ?_
                  show Steps p.tables e below (s₁.setTop (mkF m 79 #[.val (.int i1), .val (.int i2), .val (.int i3), .val (.int i4), .val (.int i5), .val (.int i6), .val (.int (4 : Int32)), .unset, .unset, .unset] [(.int (1 : Int32))])) _
                  refine XS.goto X0.here hx rfl (pc0 := 79) (pc' := 83) rfl (hb hby d2_79) (by decide) (by decide) ?_
                  exact k
                exact fun t k => pre20 t (by rw [show (own_j2_75_0 i3) = (1 : Int32) from (if_neg hc75_18)] at k; exact k)
            have pre22 : ∀ t, Steps p.tables e below (s₁.setTop (mkF m 94 #[.val (.int i1), .val (.int i2), .val (.int i3), .val (.int i4), .val (.int i5), .val (.int i6), .val (.int (4 : Int32)), .val (.int (own_j2_75_0 i3)), .unset, .unset] [])) t → Steps p.tables e below (s₁.setTop (entryFrame m #[(.int i1), (.int i2), (.int i3), (.int i4), (.int i5), (.int i6)] 10)) t := by
              intro t k
              refine pre21 _ ?_
              show Steps p.tables e below (s₁.setTop (mkF m 83 #[.val (.int i1), .val (.int i2), .val (.int i3), .val (.int i4), .val (.int i5), .val (.int i6), .val (.int (4 : Int32)), .unset, .unset, .unset] [(.int (own_j2_75_0 i3))])) _
              refine XS.istore X0.here hx rfl (hb hby d2_83) rfl (l' := #[.val (.int i1), .val (.int i2), .val (.int i3), .val (.int i4), .val (.int i5), .val (.int i6), .val (.int (4 : Int32)), .val (.int (own_j2_75_0 i3)), .unset, .unset]) rfl ?_
              show Steps p.tables e below (s₁.setTop (mkF m 85 #[.val (.int i1), .val (.int i2), .val (.int i3), .val (.int i4), .val (.int i5), .val (.int i6), .val (.int (4 : Int32)), .val (.int (own_j2_75_0 i3)), .unset, .unset] [])) _
              refine XS.goto X0.here hx rfl (pc0 := 85) (pc' := 94) rfl (hb hby d2_85) (by decide) (by decide) ?_
              exact k
            exact fun t k => pre22 t (by rw [show (own_j2_4_0 i3) = (4 : Int32) from ((if_neg hc4_2).trans ((if_neg hc20_5).trans ((if_neg hc48_13).trans (if_pos hc64_16))))] at k; rw [show (own_j2_4_1 i3) = (own_j2_75_0 i3) from ((if_neg hc4_2).trans ((if_neg hc20_5).trans ((if_neg hc48_13).trans (if_pos hc64_16))))] at k; exact k)
          · have pre23 : ∀ t, Steps p.tables e below (s₁.setTop (mkF m 94 #[.val (.int i1), .val (.int i2), .val (.int i3), .val (.int i4), .val (.int i5), .val (.int i6), .val (.int (0 : Int32)), .val (.int (0 : Int32)), .unset, .unset] [])) t → Steps p.tables e below (s₁.setTop (entryFrame m #[(.int i1), (.int i2), (.int i3), (.int i4), (.int i5), (.int i6)] 10)) t := by
              intro t k
              refine pre15 _ ?_
              show Steps p.tables e below (s₁.setTop (mkF m 64 #[.val (.int i1), .val (.int i2), .val (.int i3), .val (.int i4), .val (.int i5), .val (.int i6), .unset, .unset, .unset, .unset] [(.int (248 : Int32)), (.int i3)])) _
              refine XS.icmpYes X0.here hx rfl (pc0 := 64) (pc' := 88) rfl (hb hby d2_64) rfl (flt hc64_16).2.1 (by decide) (by decide) ?_
              show Steps p.tables e below (s₁.setTop (mkF m 88 #[.val (.int i1), .val (.int i2), .val (.int i3), .val (.int i4), .val (.int i5), .val (.int i6), .unset, .unset, .unset, .unset] [])) _
              refine XS.iconst X0.here hx rfl (hb hby d2_88) ?_
              show Steps p.tables e below (s₁.setTop (mkF m 89 #[.val (.int i1), .val (.int i2), .val (.int i3), .val (.int i4), .val (.int i5), .val (.int i6), .unset, .unset, .unset, .unset] [(.int (0 : Int32))])) _
              refine XS.istore X0.here hx rfl (hb hby d2_89) rfl (l' := #[.val (.int i1), .val (.int i2), .val (.int i3), .val (.int i4), .val (.int i5), .val (.int i6), .val (.int (0 : Int32)), .unset, .unset, .unset]) rfl ?_
              show Steps p.tables e below (s₁.setTop (mkF m 91 #[.val (.int i1), .val (.int i2), .val (.int i3), .val (.int i4), .val (.int i5), .val (.int i6), .val (.int (0 : Int32)), .unset, .unset, .unset] [])) _
              refine XS.iconst X0.here hx rfl (hb hby d2_91) ?_
              show Steps p.tables e below (s₁.setTop (mkF m 92 #[.val (.int i1), .val (.int i2), .val (.int i3), .val (.int i4), .val (.int i5), .val (.int i6), .val (.int (0 : Int32)), .unset, .unset, .unset] [(.int (0 : Int32))])) _
              refine XS.istore X0.here hx rfl (hb hby d2_92) rfl (l' := #[.val (.int i1), .val (.int i2), .val (.int i3), .val (.int i4), .val (.int i5), .val (.int i6), .val (.int (0 : Int32)), .val (.int (0 : Int32)), .unset, .unset]) rfl ?_
              exact k
            exact fun t k => pre23 t (by rw [show (own_j2_4_0 i3) = (0 : Int32) from ((if_neg hc4_2).trans ((if_neg hc20_5).trans ((if_neg hc48_13).trans (if_neg hc64_16))))] at k; rw [show (own_j2_4_1 i3) = (0 : Int32) from ((if_neg hc4_2).trans ((if_neg hc20_5).trans ((if_neg hc48_13).trans (if_neg hc64_16))))] at k; exact k)
  have pre25 : ∀ t, Steps p.tables e below (s₁.setTop (mkF m 96 #[.val (.int i1), .val (.int i2), .val (.int i3), .val (.int i4), .val (.int i5), .val (.int i6), .val (.int (own_j2_4_0 i3)), .val (.int (own_j2_4_1 i3)), .unset, .unset] [(.int (own_j2_4_1 i3))])) t → Steps p.tables e below (s₁.setTop (entryFrame m #[(.int i1), (.int i2), (.int i3), (.int i4), (.int i5), (.int i6)] 10)) t := by
    intro t k
    refine pre24 _ ?_
    show Steps p.tables e below (s₁.setTop (mkF m 94 #[.val (.int i1), .val (.int i2), .val (.int i3), .val (.int i4), .val (.int i5), .val (.int i6), .val (.int (own_j2_4_0 i3)), .val (.int (own_j2_4_1 i3)), .unset, .unset] [])) _
    refine XS.iload X0.here hx rfl (hb hby d2_94) rfl ?_
    exact k
  by_cases hc96_26 : (own_j2_4_1 i3) = (0 : Int32)
  · have pre27 : ∀ t, Steps p.tables e below (s₁.setTop (mkF m 102 #[.val (.int i1), .val (.int i2), .val (.int i3), .val (.int i4), .val (.int i5), .val (.int i6), .val (.int (own_j2_4_0 i3)), .val (.int (own_j2_4_1 i3)), .unset, .unset] [(.int (i1 ^^^ (-1 : Int32)))])) t → Steps p.tables e below (s₁.setTop (entryFrame m #[(.int i1), (.int i2), (.int i3), (.int i4), (.int i5), (.int i6)] 10)) t := by
      intro t k
      refine pre25 _ ?_
      show Steps p.tables e below (s₁.setTop (mkF m 96 #[.val (.int i1), .val (.int i2), .val (.int i3), .val (.int i4), .val (.int i5), .val (.int i6), .val (.int (own_j2_4_0 i3)), .val (.int (own_j2_4_1 i3)), .unset, .unset] [(.int (own_j2_4_1 i3))])) _
      refine XS.ifNo X0.here hx rfl (hb hby d2_96) rfl ((if0 _ _).trans (teq hc96_26).2) ?_
      show Steps p.tables e below (s₁.setTop (mkF m 99 #[.val (.int i1), .val (.int i2), .val (.int i3), .val (.int i4), .val (.int i5), .val (.int i6), .val (.int (own_j2_4_0 i3)), .val (.int (own_j2_4_1 i3)), .unset, .unset] [])) _
      refine XS.iloadN X0.here hx rfl (hb hby d2_99) rfl ?_
      show Steps p.tables e below (s₁.setTop (mkF m 100 #[.val (.int i1), .val (.int i2), .val (.int i3), .val (.int i4), .val (.int i5), .val (.int i6), .val (.int (own_j2_4_0 i3)), .val (.int (own_j2_4_1 i3)), .unset, .unset] [(.int i1)])) _
      refine XS.iconst X0.here hx rfl (hb hby d2_100) ?_
      show Steps p.tables e below (s₁.setTop (mkF m 101 #[.val (.int i1), .val (.int i2), .val (.int i3), .val (.int i4), .val (.int i5), .val (.int i6), .val (.int (own_j2_4_0 i3)), .val (.int (own_j2_4_1 i3)), .unset, .unset] [(.int (-1 : Int32)), (.int i1)])) _
      refine XS.ixor X0.here hx rfl (hb hby d2_101) rfl ?_
      exact k
    obtain ⟨fs, hr, hrun, hended, hW, hsame⟩ := X0.leave (v := some (.int (i1 ^^^ (-1 : Int32)))) (fun h => by rw [Bd.returns] at h; cases h)
    refine ⟨_, _, pre27 _ ?_, hrun, hended, _, _, rfl, ?_, ⟨_, rfl⟩, hW, hsame.mono (by decide) (by decide)⟩
    · show Steps p.tables e below (s₁.setTop (mkF m 102 #[.val (.int i1), .val (.int i2), .val (.int i3), .val (.int i4), .val (.int i5), .val (.int i6), .val (.int (own_j2_4_0 i3)), .val (.int (own_j2_4_1 i3)), .unset, .unset] [(.int (i1 ^^^ (-1 : Int32)))])) _
      exact retI X0 hx Bd.returns (hb hby d2_102) hr
    · show Q2 Z i1 i2 i3 i4 i5 i6 h0 n0 _ s₁.heap _
      rw [e0]
      exact ⟨congrArg (fun z => some (Value.int z)) (show (own_r2 i1 i2 i3 i4 i5 i6) = (i1 ^^^ (-1 : Int32)) from (if_pos hc96_26)).symm, N0, rfl⟩
  · have pre28 : ∀ t, Steps p.tables e below (s₁.setTop (mkF m 107 #[.val (.int i1), .val (.int i2), .val (.int i3), .val (.int i4), .val (.int i5), .val (.int i6), .val (.int (own_j2_4_0 i3)), .val (.int (own_j2_4_1 i3)), .unset, .unset] [(.int i2), (.int (i1 + (1 : Int32)))])) t → Steps p.tables e below (s₁.setTop (entryFrame m #[(.int i1), (.int i2), (.int i3), (.int i4), (.int i5), (.int i6)] 10)) t := by
      intro t k
      refine pre25 _ ?_
      show Steps p.tables e below (s₁.setTop (mkF m 96 #[.val (.int i1), .val (.int i2), .val (.int i3), .val (.int i4), .val (.int i5), .val (.int i6), .val (.int (own_j2_4_0 i3)), .val (.int (own_j2_4_1 i3)), .unset, .unset] [(.int (own_j2_4_1 i3))])) _
      refine XS.ifYes X0.here hx rfl (pc0 := 96) (pc' := 103) rfl (hb hby d2_96) rfl ((if0 _ _).trans (feq hc96_26).2) (by decide) (by decide) ?_
      show Steps p.tables e below (s₁.setTop (mkF m 103 #[.val (.int i1), .val (.int i2), .val (.int i3), .val (.int i4), .val (.int i5), .val (.int i6), .val (.int (own_j2_4_0 i3)), .val (.int (own_j2_4_1 i3)), .unset, .unset] [])) _
      refine XS.iloadN X0.here hx rfl (hb hby d2_103) rfl ?_
      show Steps p.tables e below (s₁.setTop (mkF m 104 #[.val (.int i1), .val (.int i2), .val (.int i3), .val (.int i4), .val (.int i5), .val (.int i6), .val (.int (own_j2_4_0 i3)), .val (.int (own_j2_4_1 i3)), .unset, .unset] [(.int i1)])) _
      refine XS.iconst X0.here hx rfl (hb hby d2_104) ?_
      show Steps p.tables e below (s₁.setTop (mkF m 105 #[.val (.int i1), .val (.int i2), .val (.int i3), .val (.int i4), .val (.int i5), .val (.int i6), .val (.int (own_j2_4_0 i3)), .val (.int (own_j2_4_1 i3)), .unset, .unset] [(.int (1 : Int32)), (.int i1)])) _
      refine XS.iadd X0.here hx rfl (hb hby d2_105) rfl ?_
      show Steps p.tables e below (s₁.setTop (mkF m 106 #[.val (.int i1), .val (.int i2), .val (.int i3), .val (.int i4), .val (.int i5), .val (.int i6), .val (.int (own_j2_4_0 i3)), .val (.int (own_j2_4_1 i3)), .unset, .unset] [(.int (i1 + (1 : Int32)))])) _
      refine XS.iloadN X0.here hx rfl (hb hby d2_106) rfl ?_
      exact k
    have pre35 : ∀ t, Steps p.tables e below (s₁.setTop (mkF m 126 #[.val (.int i1), .val (.int i2), .val (.int i3), .val (.int i4), .val (.int i5), .val (.int i6), .val (.int (own_j2_4_0 i3)), .val (.int (own_j2_4_1 i3)), .unset, .unset] [(.int (own_j2_107_0 i1 i2 i4))])) t → Steps p.tables e below (s₁.setTop (entryFrame m #[(.int i1), (.int i2), (.int i3), (.int i4), (.int i5), (.int i6)] 10)) t := by
      by_cases hc107_29 : (i1 + (1 : Int32)) < i2
      · have pre30 : ∀ t, Steps p.tables e below (s₁.setTop (mkF m 118 #[.val (.int i1), .val (.int i2), .val (.int i3), .val (.int i4), .val (.int i5), .val (.int i6), .val (.int (own_j2_4_0 i3)), .val (.int (own_j2_4_1 i3)), .unset, .unset] [(.int (128 : Int32)), (.int (i4 &&& (192 : Int32)))])) t → Steps p.tables e below (s₁.setTop (entryFrame m #[(.int i1), (.int i2), (.int i3), (.int i4), (.int i5), (.int i6)] 10)) t := by
          intro t k
          refine pre28 _ ?_
          show Steps p.tables e below (s₁.setTop (mkF m 107 #[.val (.int i1), .val (.int i2), .val (.int i3), .val (.int i4), .val (.int i5), .val (.int i6), .val (.int (own_j2_4_0 i3)), .val (.int (own_j2_4_1 i3)), .unset, .unset] [(.int i2), (.int (i1 + (1 : Int32)))])) _
          refine XS.icmpNo X0.here hx rfl (hb hby d2_107) rfl (tlt hc107_29).2.1 ?_
          show Steps p.tables e below (s₁.setTop (mkF m 110 #[.val (.int i1), .val (.int i2), .val (.int i3), .val (.int i4), .val (.int i5), .val (.int i6), .val (.int (own_j2_4_0 i3)), .val (.int (own_j2_4_1 i3)), .unset, .unset] [])) _
          refine XS.iloadN X0.here hx rfl (hb hby d2_110) rfl ?_
          show Steps p.tables e below (s₁.setTop (mkF m 111 #[.val (.int i1), .val (.int i2), .val (.int i3), .val (.int i4), .val (.int i5), .val (.int i6), .val (.int (own_j2_4_0 i3)), .val (.int (own_j2_4_1 i3)), .unset, .unset] [(.int i4)])) _
          refine XS.sipush X0.here hx rfl (hb hby d2_111) ?_
          show Steps p.tables e below (s₁.setTop (mkF m 114 #[.val (.int i1), .val (.int i2), .val (.int i3), .val (.int i4), .val (.int i5), .val (.int i6), .val (.int (own_j2_4_0 i3)), .val (.int (own_j2_4_1 i3)), .unset, .unset] [(.int (192 : Int32)), (.int i4)])) _
          refine XS.iand X0.here hx rfl (hb hby d2_114) rfl ?_
          show Steps p.tables e below (s₁.setTop (mkF m 115 #[.val (.int i1), .val (.int i2), .val (.int i3), .val (.int i4), .val (.int i5), .val (.int i6), .val (.int (own_j2_4_0 i3)), .val (.int (own_j2_4_1 i3)), .unset, .unset] [(.int (i4 &&& (192 : Int32)))])) _
          refine XS.sipush X0.here hx rfl (hb hby d2_115) ?_
          exact k
        by_cases hc118_31 : (i4 &&& (192 : Int32)) = (128 : Int32)
        · have pre32 : ∀ t, Steps p.tables e below (s₁.setTop (mkF m 126 #[.val (.int i1), .val (.int i2), .val (.int i3), .val (.int i4), .val (.int i5), .val (.int i6), .val (.int (own_j2_4_0 i3)), .val (.int (own_j2_4_1 i3)), .unset, .unset] [(.int (1 : Int32))])) t → Steps p.tables e below (s₁.setTop (entryFrame m #[(.int i1), (.int i2), (.int i3), (.int i4), (.int i5), (.int i6)] 10)) t := by
            intro t k
            refine pre30 _ ?_
            show Steps p.tables e below (s₁.setTop (mkF m 118 #[.val (.int i1), .val (.int i2), .val (.int i3), .val (.int i4), .val (.int i5), .val (.int i6), .val (.int (own_j2_4_0 i3)), .val (.int (own_j2_4_1 i3)), .unset, .unset] [(.int (128 : Int32)), (.int (i4 &&& (192 : Int32)))])) _
            refine XS.icmpNo X0.here hx rfl (hb hby d2_118) rfl (teq hc118_31).2 ?_
            show Steps p.tables e below (s₁.setTop (mkF m 121 #[.val (.int i1), .val (.int i2), .val (.int i3), .val (.int i4), .val (.int i5), .val (.int i6), .val (.int (own_j2_4_0 i3)), .val (.int (own_j2_4_1 i3)), .unset, .unset] [])) _
            refine XS.iconst X0.here hx rfl (hb hby d2_121) ?_
            show Steps p.tables e below (s₁.setTop (mkF m 122 #[.val (.int i1), .val (.int i2), .val (.int i3), .val (.int i4), .val (.int i5), .val (.int i6), .val (.int (own_j2_4_0 i3)), .val (.int (own_j2_4_1 i3)), .unset, .unset] [(.int (1 : Int32))])) _
            refine XS.goto X0.here hx rfl (pc0 := 122) (pc' := 126) rfl (hb hby d2_122) (by decide) (by decide) ?_
            exact k
          exact fun t k => pre32 t (by rw [show (own_j2_107_0 i1 i2 i4) = (1 : Int32) from ((if_pos hc107_29).trans (if_pos hc118_31))] at k; exact k)
        · have pre33 : ∀ t, Steps p.tables e below (s₁.setTop (mkF m 126 #[.val (.int i1), .val (.int i2), .val (.int i3), .val (.int i4), .val (.int i5), .val (.int i6), .val (.int (own_j2_4_0 i3)), .val (.int (own_j2_4_1 i3)), .unset, .unset] [(.int (0 : Int32))])) t → Steps p.tables e below (s₁.setTop (entryFrame m #[(.int i1), (.int i2), (.int i3), (.int i4), (.int i5), (.int i6)] 10)) t := by
            intro t k
            refine pre30 _ ?_
            show Steps p.tables e below (s₁.setTop (mkF m 118 #[.val (.int i1), .val (.int i2), .val (.int i3), .val (.int i4), .val (.int i5), .val (.int i6), .val (.int (own_j2_4_0 i3)), .val (.int (own_j2_4_1 i3)), .unset, .unset] [(.int (128 : Int32)), (.int (i4 &&& (192 : Int32)))])) _
            refine XS.icmpYes X0.here hx rfl (pc0 := 118) (pc' := 125) rfl (hb hby d2_118) rfl (feq hc118_31).2 (by decide) (by decide) ?_
            show Steps p.tables e below (s₁.setTop (mkF m 125 #[.val (.int i1), .val (.int i2), .val (.int i3), .val (.int i4), .val (.int i5), .val (.int i6), .val (.int (own_j2_4_0 i3)), .val (.int (own_j2_4_1 i3)), .unset, .unset] [])) _
            refine XS.iconst X0.here hx rfl (hb hby d2_125) ?_
            exact k
          exact fun t k => pre33 t (by rw [show (own_j2_107_0 i1 i2 i4) = (0 : Int32) from ((if_pos hc107_29).trans (if_neg hc118_31))] at k; exact k)
      · have pre34 : ∀ t, Steps p.tables e below (s₁.setTop (mkF m 126 #[.val (.int i1), .val (.int i2), .val (.int i3), .val (.int i4), .val (.int i5), .val (.int i6), .val (.int (own_j2_4_0 i3)), .val (.int (own_j2_4_1 i3)), .unset, .unset] [(.int (0 : Int32))])) t → Steps p.tables e below (s₁.setTop (entryFrame m #[(.int i1), (.int i2), (.int i3), (.int i4), (.int i5), (.int i6)] 10)) t := by
          intro t k
          refine pre28 _ ?_
          show Steps p.tables e below (s₁.setTop (mkF m 107 #[.val (.int i1), .val (.int i2), .val (.int i3), .val (.int i4), .val (.int i5), .val (.int i6), .val (.int (own_j2_4_0 i3)), .val (.int (own_j2_4_1 i3)), .unset, .unset] [(.int i2), (.int (i1 + (1 : Int32)))])) _
          refine XS.icmpYes X0.here hx rfl (pc0 := 107) (pc' := 125) rfl (hb hby d2_107) rfl (flt hc107_29).2.1 (by decide) (by decide) ?_
          show Steps p.tables e below (s₁.setTop (mkF m 125 #[.val (.int i1), .val (.int i2), .val (.int i3), .val (.int i4), .val (.int i5), .val (.int i6), .val (.int (own_j2_4_0 i3)), .val (.int (own_j2_4_1 i3)), .unset, .unset] [])) _
          refine XS.iconst X0.here hx rfl (hb hby d2_125) ?_
          exact k
        exact fun t k => pre34 t (by rw [show (own_j2_107_0 i1 i2 i4) = (0 : Int32) from (if_neg hc107_29)] at k; exact k)
    have pre36 : ∀ t, Steps p.tables e below (s₁.setTop (mkF m 131 #[.val (.int i1), .val (.int i2), .val (.int i3), .val (.int i4), .val (.int i5), .val (.int i6), .val (.int (own_j2_4_0 i3)), .val (.int (own_j2_4_1 i3)), .val (.int (own_j2_107_0 i1 i2 i4)), .unset] [(.int (3 : Int32)), (.int (own_j2_4_0 i3))])) t → Steps p.tables e below (s₁.setTop (entryFrame m #[(.int i1), (.int i2), (.int i3), (.int i4), (.int i5), (.int i6)] 10)) t := by
      intro t k
      refine pre35 _ ?_
      show Steps p.tables e below (s₁.setTop (mkF m 126 #[.val (.int i1), .val (.int i2), .val (.int i3), .val (.int i4), .val (.int i5), .val (.int i6), .val (.int (own_j2_4_0 i3)), .val (.int (own_j2_4_1 i3)), .unset, .unset] [(.int (own_j2_107_0 i1 i2 i4))])) _
      refine XS.istore X0.here hx rfl (hb hby d2_126) rfl (l' := #[.val (.int i1), .val (.int i2), .val (.int i3), .val (.int i4), .val (.int i5), .val (.int i6), .val (.int (own_j2_4_0 i3)), .val (.int (own_j2_4_1 i3)), .val (.int (own_j2_107_0 i1 i2 i4)), .unset]) rfl ?_
      show Steps p.tables e below (s₁.setTop (mkF m 128 #[.val (.int i1), .val (.int i2), .val (.int i3), .val (.int i4), .val (.int i5), .val (.int i6), .val (.int (own_j2_4_0 i3)), .val (.int (own_j2_4_1 i3)), .val (.int (own_j2_107_0 i1 i2 i4)), .unset] [])) _
      refine XS.iload X0.here hx rfl (hb hby d2_128) rfl ?_
      show Steps p.tables e below (s₁.setTop (mkF m 130 #[.val (.int i1), .val (.int i2), .val (.int i3), .val (.int i4), .val (.int i5), .val (.int i6), .val (.int (own_j2_4_0 i3)), .val (.int (own_j2_4_1 i3)), .val (.int (own_j2_107_0 i1 i2 i4)), .unset] [(.int (own_j2_4_0 i3))])) _
      refine XS.iconst X0.here hx rfl (hb hby d2_130) ?_
      exact k
    have pre68 : ∀ t, Steps p.tables e below (s₁.setTop (mkF m 233 #[.val (.int i1), .val (.int i2), .val (.int i3), .val (.int i4), .val (.int i5), .val (.int i6), .val (.int (own_j2_4_0 i3)), .val (.int (own_j2_4_1 i3)), .val (.int (own_j2_131_0 i1 i2 i3 i4)), (own_j2_131_1 i3 i4)] [])) t → Steps p.tables e below (s₁.setTop (entryFrame m #[(.int i1), (.int i2), (.int i3), (.int i4), (.int i5), (.int i6)] 10)) t := by
      by_cases hc131_37 : (own_j2_4_0 i3) = (3 : Int32)
      · have pre38 : ∀ t, Steps p.tables e below (s₁.setTop (mkF m 150 #[.val (.int i1), .val (.int i2), .val (.int i3), .val (.int i4), .val (.int i5), .val (.int i6), .val (.int (own_j2_4_0 i3)), .val (.int (own_j2_4_1 i3)), .val (.int (own_j2_107_0 i1 i2 i4)), .val (.int (((i3 &&& (15 : Int32)) <<< ((6 : Int32) &&& 31)) ||| (i4 &&& (63 : Int32))))] [(.int (own_j2_107_0 i1 i2 i4))])) t → Steps p.tables e below (s₁.setTop (entryFrame m #[(.int i1), (.int i2), (.int i3), (.int i4), (.int i5), (.int i6)] 10)) t := by
          intro t k
          refine pre36 _ ?_
          show Steps p.tables e below (s₁.setTop (mkF m 131 #[.val (.int i1), .val (.int i2), .val (.int i3), .val (.int i4), .val (.int i5), .val (.int i6), .val (.int (own_j2_4_0 i3)), .val (.int (own_j2_4_1 i3)), .val (.int (own_j2_107_0 i1 i2 i4)), .unset] [(.int (3 : Int32)), (.int (own_j2_4_0 i3))])) _
          refine XS.icmpNo X0.here hx rfl (hb hby d2_131) rfl (teq hc131_37).2 ?_
          show Steps p.tables e below (s₁.setTop (mkF m 134 #[.val (.int i1), .val (.int i2), .val (.int i3), .val (.int i4), .val (.int i5), .val (.int i6), .val (.int (own_j2_4_0 i3)), .val (.int (own_j2_4_1 i3)), .val (.int (own_j2_107_0 i1 i2 i4)), .unset] [])) _
          refine XS.iloadN X0.here hx rfl (hb hby d2_134) rfl ?_
          show Steps p.tables e below (s₁.setTop (mkF m 135 #[.val (.int i1), .val (.int i2), .val (.int i3), .val (.int i4), .val (.int i5), .val (.int i6), .val (.int (own_j2_4_0 i3)), .val (.int (own_j2_4_1 i3)), .val (.int (own_j2_107_0 i1 i2 i4)), .unset] [(.int i3)])) _
          refine XS.bipush X0.here hx rfl (hb hby d2_135) ?_
          show Steps p.tables e below (s₁.setTop (mkF m 137 #[.val (.int i1), .val (.int i2), .val (.int i3), .val (.int i4), .val (.int i5), .val (.int i6), .val (.int (own_j2_4_0 i3)), .val (.int (own_j2_4_1 i3)), .val (.int (own_j2_107_0 i1 i2 i4)), .unset] [(.int (15 : Int32)), (.int i3)])) _
          refine XS.iand X0.here hx rfl (hb hby d2_137) rfl ?_
          show Steps p.tables e below (s₁.setTop (mkF m 138 #[.val (.int i1), .val (.int i2), .val (.int i3), .val (.int i4), .val (.int i5), .val (.int i6), .val (.int (own_j2_4_0 i3)), .val (.int (own_j2_4_1 i3)), .val (.int (own_j2_107_0 i1 i2 i4)), .unset] [(.int (i3 &&& (15 : Int32)))])) _
          refine XS.bipush X0.here hx rfl (hb hby d2_138) ?_
          show Steps p.tables e below (s₁.setTop (mkF m 140 #[.val (.int i1), .val (.int i2), .val (.int i3), .val (.int i4), .val (.int i5), .val (.int i6), .val (.int (own_j2_4_0 i3)), .val (.int (own_j2_4_1 i3)), .val (.int (own_j2_107_0 i1 i2 i4)), .unset] [(.int (6 : Int32)), (.int (i3 &&& (15 : Int32)))])) _
          refine XS.ishl X0.here hx rfl (hb hby d2_140) rfl ?_
          show Steps p.tables e below (s₁.setTop (mkF m 141 #[.val (.int i1), .val (.int i2), .val (.int i3), .val (.int i4), .val (.int i5), .val (.int i6), .val (.int (own_j2_4_0 i3)), .val (.int (own_j2_4_1 i3)), .val (.int (own_j2_107_0 i1 i2 i4)), .unset] [(.int ((i3 &&& (15 : Int32)) <<< ((6 : Int32) &&& 31)))])) _
          refine XS.iloadN X0.here hx rfl (hb hby d2_141) rfl ?_
          show Steps p.tables e below (s₁.setTop (mkF m 142 #[.val (.int i1), .val (.int i2), .val (.int i3), .val (.int i4), .val (.int i5), .val (.int i6), .val (.int (own_j2_4_0 i3)), .val (.int (own_j2_4_1 i3)), .val (.int (own_j2_107_0 i1 i2 i4)), .unset] [(.int i4), (.int ((i3 &&& (15 : Int32)) <<< ((6 : Int32) &&& 31)))])) _
          refine XS.bipush X0.here hx rfl (hb hby d2_142) ?_
          show Steps p.tables e below (s₁.setTop (mkF m 144 #[.val (.int i1), .val (.int i2), .val (.int i3), .val (.int i4), .val (.int i5), .val (.int i6), .val (.int (own_j2_4_0 i3)), .val (.int (own_j2_4_1 i3)), .val (.int (own_j2_107_0 i1 i2 i4)), .unset] [(.int (63 : Int32)), (.int i4), (.int ((i3 &&& (15 : Int32)) <<< ((6 : Int32) &&& 31)))])) _
          refine XS.iand X0.here hx rfl (hb hby d2_144) rfl ?_
          show Steps p.tables e below (s₁.setTop (mkF m 145 #[.val (.int i1), .val (.int i2), .val (.int i3), .val (.int i4), .val (.int i5), .val (.int i6), .val (.int (own_j2_4_0 i3)), .val (.int (own_j2_4_1 i3)), .val (.int (own_j2_107_0 i1 i2 i4)), .unset] [(.int (i4 &&& (63 : Int32))), (.int ((i3 &&& (15 : Int32)) <<< ((6 : Int32) &&& 31)))])) _
          refine XS.ior X0.here hx rfl (hb hby d2_145) rfl ?_
          show Steps p.tables e below (s₁.setTop (mkF m 146 #[.val (.int i1), .val (.int i2), .val (.int i3), .val (.int i4), .val (.int i5), .val (.int i6), .val (.int (own_j2_4_0 i3)), .val (.int (own_j2_4_1 i3)), .val (.int (own_j2_107_0 i1 i2 i4)), .unset] [(.int (((i3 &&& (15 : Int32)) <<< ((6 : Int32) &&& 31)) ||| (i4 &&& (63 : Int32))))])) _
          refine XS.istore X0.here hx rfl (hb hby d2_146) rfl (l' := #[.val (.int i1), .val (.int i2), .val (.int i3), .val (.int i4), .val (.int i5), .val (.int i6), .val (.int (own_j2_4_0 i3)), .val (.int (own_j2_4_1 i3)), .val (.int (own_j2_107_0 i1 i2 i4)), .val (.int (((i3 &&& (15 : Int32)) <<< ((6 : Int32) &&& 31)) ||| (i4 &&& (63 : Int32))))]) rfl ?_
          show Steps p.tables e below (s₁.setTop (mkF m 148 #[.val (.int i1), .val (.int i2), .val (.int i3), .val (.int i4), .val (.int i5), .val (.int i6), .val (.int (own_j2_4_0 i3)), .val (.int (own_j2_4_1 i3)), .val (.int (own_j2_107_0 i1 i2 i4)), .val (.int (((i3 &&& (15 : Int32)) <<< ((6 : Int32) &&& 31)) ||| (i4 &&& (63 : Int32))))] [])) _
          refine XS.iload X0.here hx rfl (hb hby d2_148) rfl ?_
          exact k
        have pre51 : ∀ t, Steps p.tables e below (s₁.setTop (mkF m 181 #[.val (.int i1), .val (.int i2), .val (.int i3), .val (.int i4), .val (.int i5), .val (.int i6), .val (.int (own_j2_4_0 i3)), .val (.int (own_j2_4_1 i3)), .val (.int (own_j2_107_0 i1 i2 i4)), .val (.int (((i3 &&& (15 : Int32)) <<< ((6 : Int32) &&& 31)) ||| (i4 &&& (63 : Int32))))] [(.int (own_j2_150_0 i1 i2 i3 i4))])) t → Steps p.tables e below (s₁.setTop (entryFrame m #[(.int i1), (.int i2), (.int i3), (.int i4), (.int i5), (.int i6)] 10)) t := by
          by_cases hc150_39 : (own_j2_107_0 i1 i2 i4) = (0 : Int32)
          · have pre40 : ∀ t, Steps p.tables e below (s₁.setTop (mkF m 181 #[.val (.int i1), .val (.int i2), .val (.int i3), .val (.int i4), .val (.int i5), .val (.int i6), .val (.int (own_j2_4_0 i3)), .val (.int (own_j2_4_1 i3)), .val (.int (own_j2_107_0 i1 i2 i4)), .val (.int (((i3 &&& (15 : Int32)) <<< ((6 : Int32) &&& 31)) ||| (i4 &&& (63 : Int32))))] [(.int (0 : Int32))])) t → Steps p.tables e below (s₁.setTop (entryFrame m #[(.int i1), (.int i2), (.int i3), (.int i4), (.int i5), (.int i6)] 10)) t := by
              intro t k
              refine pre38 _ ?_
              show Steps p.tables e below (s₁.setTop (mkF m 150 #[.val (.int i1), .val (.int i2), .val (.int i3), .val (.int i4), .val (.int i5), .val (.int i6), .val (.int (own_j2_4_0 i3)), .val (.int (own_j2_4_1 i3)), .val (.int (own_j2_107_0 i1 i2 i4)), .val (.int (((i3 &&& (15 : Int32)) <<< ((6 : Int32) &&& 31)) ||| (i4 &&& (63 : Int32))))] [(.int (own_j2_107_0 i1 i2 i4))])) _
              refine XS.ifYes X0.here hx rfl (pc0 := 150) (pc' := 180) rfl (hb hby d2_150) rfl ((if0 _ _).trans (teq hc150_39).1) (by decide) (by decide) ?_
              show Steps p.tables e below (s₁.setTop (mkF m 180 #[.val (.int i1), .val (.int i2), .val (.int i3), .val (.int i4), .val (.int i5), .val (.int i6), .val (.int (own_j2_4_0 i3)), .val (.int (own_j2_4_1 i3)), .val (.int (own_j2_107_0 i1 i2 i4)), .val (.int (((i3 &&& (15 : Int32)) <<< ((6 : Int32) &&& 31)) ||| (i4 &&& (63 : Int32))))] [])) _
              refine XS.iconst X0.here hx rfl (hb hby d2_180) ?_
              exact k
            exact fun t k => pre40 t (by rw [show (own_j2_150_0 i1 i2 i3 i4) = (0 : Int32) from (if_pos hc150_39)] at k; exact k)
          · have pre41 : ∀ t, Steps p.tables e below (s₁.setTop (mkF m 157 #[.val (.int i1), .val (.int i2), .val (.int i3), .val (.int i4), .val (.int i5), .val (.int i6), .val (.int (own_j2_4_0 i3)), .val (.int (own_j2_4_1 i3)), .val (.int (own_j2_107_0 i1 i2 i4)), .val (.int (((i3 &&& (15 : Int32)) <<< ((6 : Int32) &&& 31)) ||| (i4 &&& (63 : Int32))))] [(.int (32 : Int32)), (.int (((i3 &&& (15 : Int32)) <<< ((6 : Int32) &&& 31)) ||| (i4 &&& (63 : Int32))))])) t → Steps p.tables e below (s₁.setTop (entryFrame m #[(.int i1), (.int i2), (.int i3), (.int i4), (.int i5), (.int i6)] 10)) t := by
              intro t k
              refine pre38 _ ?_
              show Steps p.tables e below (s₁.setTop (mkF m 150 #[.val (.int i1), .val (.int i2), .val (.int i3), .val (.int i4), .val (.int i5), .val (.int i6), .val (.int (own_j2_4_0 i3)), .val (.int (own_j2_4_1 i3)), .val (.int (own_j2_107_0 i1 i2 i4)), .val (.int (((i3 &&& (15 : Int32)) <<< ((6 : Int32) &&& 31)) ||| (i4 &&& (63 : Int32))))] [(.int (own_j2_107_0 i1 i2 i4))])) _
              refine XS.ifNo X0.here hx rfl (hb hby d2_150) rfl ((if0 _ _).trans (feq hc150_39).1) ?_
              show Steps p.tables e below (s₁.setTop (mkF m 153 #[.val (.int i1), .val (.int i2), .val (.int i3), .val (.int i4), .val (.int i5), .val (.int i6), .val (.int (own_j2_4_0 i3)), .val (.int (own_j2_4_1 i3)), .val (.int (own_j2_107_0 i1 i2 i4)), .val (.int (((i3 &&& (15 : Int32)) <<< ((6 : Int32) &&& 31)) ||| (i4 &&& (63 : Int32))))] [])) _
              refine XS.iload X0.here hx rfl (hb hby d2_153) rfl ?_
              show Steps p.tables e below (s₁.setTop (mkF m 155 #[.val (.int i1), .val (.int i2), .val (.int i3), .val (.int i4), .val (.int i5), .val (.int i6), .val (.int (own_j2_4_0 i3)), .val (.int (own_j2_4_1 i3)), .val (.int (own_j2_107_0 i1 i2 i4)), .val (.int (((i3 &&& (15 : Int32)) <<< ((6 : Int32) &&& 31)) ||| (i4 &&& (63 : Int32))))] [(.int (((i3 &&& (15 : Int32)) <<< ((6 : Int32) &&& 31)) ||| (i4 &&& (63 : Int32))))])) _
              refine XS.bipush X0.here hx rfl (hb hby d2_155) ?_
              exact k
            by_cases hc157_42 : (((i3 &&& (15 : Int32)) <<< ((6 : Int32) &&& 31)) ||| (i4 &&& (63 : Int32))) < (32 : Int32)
            · have pre43 : ∀ t, Steps p.tables e below (s₁.setTop (mkF m 181 #[.val (.int i1), .val (.int i2), .val (.int i3), .val (.int i4), .val (.int i5), .val (.int i6), .val (.int (own_j2_4_0 i3)), .val (.int (own_j2_4_1 i3)), .val (.int (own_j2_107_0 i1 i2 i4)), .val (.int (((i3 &&& (15 : Int32)) <<< ((6 : Int32) &&& 31)) ||| (i4 &&& (63 : Int32))))] [(.int (0 : Int32))])) t → Steps p.tables e below (s₁.setTop (entryFrame m #[(.int i1), (.int i2), (.int i3), (.int i4), (.int i5), (.int i6)] 10)) t := by
                intro t k
                refine pre41 _ ?_
                show Steps p.tables e below (s₁.setTop (mkF m 157 #[.val (.int i1), .val (.int i2), .val (.int i3), .val (.int i4), .val (.int i5), .val (.int i6), .val (.int (own_j2_4_0 i3)), .val (.int (own_j2_4_1 i3)), .val (.int (own_j2_107_0 i1 i2 i4)), .val (.int (((i3 &&& (15 : Int32)) <<< ((6 : Int32) &&& 31)) ||| (i4 &&& (63 : Int32))))] [(.int (32 : Int32)), (.int (((i3 &&& (15 : Int32)) <<< ((6 : Int32) &&& 31)) ||| (i4 &&& (63 : Int32))))])) _
                refine XS.icmpYes X0.here hx rfl (pc0 := 157) (pc' := 180) rfl (hb hby d2_157) rfl (tlt hc157_42).1 (by decide) (by decide) ?_
                show Steps p.tables e below (s₁.setTop (mkF m 180 #[.val (.int i1), .val (.int i2), .val (.int i3), .val (.int i4), .val (.int i5), .val (.int i6), .val (.int (own_j2_4_0 i3)), .val (.int (own_j2_4_1 i3)), .val (.int (own_j2_107_0 i1 i2 i4)), .val (.int (((i3 &&& (15 : Int32)) <<< ((6 : Int32) &&& 31)) ||| (i4 &&& (63 : Int32))))] [])) _
                refine XS.iconst X0.here hx rfl (hb hby d2_180) ?_
                exact k
              exact fun t k => pre43 t (by rw [show (own_j2_150_0 i1 i2 i3 i4) = (0 : Int32) from ((if_neg hc150_39).trans (if_pos hc157_42))] at k; exact k)
            · have pre44 : ∀ t, Steps p.tables e below (s₁.setTop (mkF m 165 #[.val (.int i1), .val (.int i2), .val (.int i3), .val (.int i4), .val (.int i5), .val (.int i6), .val (.int (own_j2_4_0 i3)), .val (.int (own_j2_4_1 i3)), .val (.int (own_j2_107_0 i1 i2 i4)), .val (.int (((i3 &&& (15 : Int32)) <<< ((6 : Int32) &&& 31)) ||| (i4 &&& (63 : Int32))))] [(.int (864 : Int32)), (.int (((i3 &&& (15 : Int32)) <<< ((6 : Int32) &&& 31)) ||| (i4 &&& (63 : Int32))))])) t → Steps p.tables e below (s₁.setTop (entryFrame m #[(.int i1), (.int i2), (.int i3), (.int i4), (.int i5), (.int i6)] 10)) t := by
                intro t k
                refine pre41 _ ?_
                show Steps p.tables e below (s₁.setTop (mkF m 157 #[.val (.int i1), .val (.int i2), .val (.int i3), .val (.int i4), .val (.int i5), .val (.int i6), .val (.int (own_j2_4_0 i3)), .val (.int (own_j2_4_1 i3)), .val (.int (own_j2_107_0 i1 i2 i4)), .val (.int (((i3 &&& (15 : Int32)) <<< ((6 : Int32) &&& 31)) ||| (i4 &&& (63 : Int32))))] [(.int (32 : Int32)), (.int (((i3 &&& (15 : Int32)) <<< ((6 : Int32) &&& 31)) ||| (i4 &&& (63 : Int32))))])) _
                refine XS.icmpNo X0.here hx rfl (hb hby d2_157) rfl (flt hc157_42).1 ?_
                show Steps p.tables e below (s₁.setTop (mkF m 160 #[.val (.int i1), .val (.int i2), .val (.int i3), .val (.int i4), .val (.int i5), .val (.int i6), .val (.int (own_j2_4_0 i3)), .val (.int (own_j2_4_1 i3)), .val (.int (own_j2_107_0 i1 i2 i4)), .val (.int (((i3 &&& (15 : Int32)) <<< ((6 : Int32) &&& 31)) ||| (i4 &&& (63 : Int32))))] [])) _
                refine XS.iload X0.here hx rfl (hb hby d2_160) rfl ?_
                show Steps p.tables e below (s₁.setTop (mkF m 162 #[.val (.int i1), .val (.int i2), .val (.int i3), .val (.int i4), .val (.int i5), .val (.int i6), .val (.int (own_j2_4_0 i3)), .val (.int (own_j2_4_1 i3)), .val (.int (own_j2_107_0 i1 i2 i4)), .val (.int (((i3 &&& (15 : Int32)) <<< ((6 : Int32) &&& 31)) ||| (i4 &&& (63 : Int32))))] [(.int (((i3 &&& (15 : Int32)) <<< ((6 : Int32) &&& 31)) ||| (i4 &&& (63 : Int32))))])) _
                refine XS.sipush X0.here hx rfl (hb hby d2_162) ?_
                exact k
              by_cases hc165_45 : (((i3 &&& (15 : Int32)) <<< ((6 : Int32) &&& 31)) ||| (i4 &&& (63 : Int32))) < (864 : Int32)
              · have pre46 : ∀ t, Steps p.tables e below (s₁.setTop (mkF m 181 #[.val (.int i1), .val (.int i2), .val (.int i3), .val (.int i4), .val (.int i5), .val (.int i6), .val (.int (own_j2_4_0 i3)), .val (.int (own_j2_4_1 i3)), .val (.int (own_j2_107_0 i1 i2 i4)), .val (.int (((i3 &&& (15 : Int32)) <<< ((6 : Int32) &&& 31)) ||| (i4 &&& (63 : Int32))))] [(.int (1 : Int32))])) t → Steps p.tables e below (s₁.setTop (entryFrame m #[(.int i1), (.int i2), (.int i3), (.int i4), (.int i5), (.int i6)] 10)) t := by
                  intro t k
                  refine pre44 _ ?_
                  show Steps p.tables e below (s₁.setTop (mkF m 165 #[.val (.int i1), .val (.int i2), .val (.int i3), .val (.int i4), .val (.int i5), .val (.int i6), .val (.int (own_j2_4_0 i3)), .val (.int (own_j2_4_1 i3)), .val (.int (own_j2_107_0 i1 i2 i4)), .val (.int (((i3 &&& (15 : Int32)) <<< ((6 : Int32) &&& 31)) ||| (i4 &&& (63 : Int32))))] [(.int (864 : Int32)), (.int (((i3 &&& (15 : Int32)) <<< ((6 : Int32) &&& 31)) ||| (i4 &&& (63 : Int32))))])) _
                  refine XS.icmpYes X0.here hx rfl (pc0 := 165) (pc' := 176) rfl (hb hby d2_165) rfl (tlt hc165_45).1 (by decide) (by decide) ?_
                  show Steps p.tables e below (s₁.setTop (mkF m 176 #[.val (.int i1), .val (.int i2), .val (.int i3), .val (.int i4), .val (.int i5), .val (.int i6), .val (.int (own_j2_4_0 i3)), .val (.int (own_j2_4_1 i3)), .val (.int (own_j2_107_0 i1 i2 i4)), .val (.int (((i3 &&& (15 : Int32)) <<< ((6 : Int32) &&& 31)) ||| (i4 &&& (63 : Int32))))] [])) _
                  refine XS.iconst X0.here hx rfl (hb hby d2_176) ?_
                  show Steps p.tables e below (s₁.setTop (mkF m 177 #[.val (.int i1), .val (.int i2), .val (.int i3), .val (.int i4), .val (.int i5), .val (.int i6), .val (.int (own_j2_4_0 i3)), .val (.int (own_j2_4_1 i3)), .val (.int (own_j2_107_0 i1 i2 i4)), .val (.int (((i3 &&& (15 : Int32)) <<< ((6 : Int32) &&& 31)) ||| (i4 &&& (63 : Int32))))] [(.int (1 : Int32))])) _
                  refine XS.goto X0.here hx rfl (pc0 := 177) (pc' := 181) rfl (hb hby d2_177) (by decide) (by decide) ?_
                  exact k
                exact fun t k => pre46 t (by rw [show (own_j2_150_0 i1 i2 i3 i4) = (1 : Int32) from ((if_neg hc150_39).trans ((if_neg hc157_42).trans (if_pos hc165_45)))] at k; exact k)
              · have pre47 : ∀ t, Steps p.tables e below (s₁.setTop (mkF m 173 #[.val (.int i1), .val (.int i2), .val (.int i3), .val (.int i4), .val (.int i5), .val (.int i6), .val (.int (own_j2_4_0 i3)), .val (.int (own_j2_4_1 i3)), .val (.int (own_j2_107_0 i1 i2 i4)), .val (.int (((i3 &&& (15 : Int32)) <<< ((6 : Int32) &&& 31)) ||| (i4 &&& (63 : Int32))))] [(.int (895 : Int32)), (.int (((i3 &&& (15 : Int32)) <<< ((6 : Int32) &&& 31)) ||| (i4 &&& (63 : Int32))))])) t → Steps p.tables e below (s₁.setTop (entryFrame m #[(.int i1), (.int i2), (.int i3), (.int i4), (.int i5), (.int i6)] 10)) t := by
                  intro t k
                  refine pre44 _ ?_
                  show Steps p.tables e below (s₁.setTop (mkF m 165 #[.val (.int i1), .val (.int i2), .val (.int i3), .val (.int i4), .val (.int i5), .val (.int i6), .val (.int (own_j2_4_0 i3)), .val (.int (own_j2_4_1 i3)), .val (.int (own_j2_107_0 i1 i2 i4)), .val (.int (((i3 &&& (15 : Int32)) <<< ((6 : Int32) &&& 31)) ||| (i4 &&& (63 : Int32))))] [(.int (864 : Int32)), (.int (((i3 &&& (15 : Int32)) <<< ((6 : Int32) &&& 31)) ||| (i4 &&& (63 : Int32))))])) _
                  refine XS.icmpNo X0.here hx rfl (hb hby d2_165) rfl (flt hc165_45).1 ?_
                  show Steps p.tables e below (s₁.setTop (mkF m 168 #[.val (.int i1), .val (.int i2), .val (.int i3), .val (.int i4), .val (.int i5), .val (.int i6), .val (.int (own_j2_4_0 i3)), .val (.int (own_j2_4_1 i3)), .val (.int (own_j2_107_0 i1 i2 i4)), .val (.int (((i3 &&& (15 : Int32)) <<< ((6 : Int32) &&& 31)) ||| (i4 &&& (63 : Int32))))] [])) _
                  refine XS.iload X0.here hx rfl (hb hby d2_168) rfl ?_
                  show Steps p.tables e below (s₁.setTop (mkF m 170 #[.val (.int i1), .val (.int i2), .val (.int i3), .val (.int i4), .val (.int i5), .val (.int i6), .val (.int (own_j2_4_0 i3)), .val (.int (own_j2_4_1 i3)), .val (.int (own_j2_107_0 i1 i2 i4)), .val (.int (((i3 &&& (15 : Int32)) <<< ((6 : Int32) &&& 31)) ||| (i4 &&& (63 : Int32))))] [(.int (((i3 &&& (15 : Int32)) <<< ((6 : Int32) &&& 31)) ||| (i4 &&& (63 : Int32))))])) _
                  refine XS.sipush X0.here hx rfl (hb hby d2_170) ?_
                  exact k
                by_cases hc173_48 : (895 : Int32) < (((i3 &&& (15 : Int32)) <<< ((6 : Int32) &&& 31)) ||| (i4 &&& (63 : Int32)))
                · have pre49 : ∀ t, Steps p.tables e below (s₁.setTop (mkF m 181 #[.val (.int i1), .val (.int i2), .val (.int i3), .val (.int i4), .val (.int i5), .val (.int i6), .val (.int (own_j2_4_0 i3)), .val (.int (own_j2_4_1 i3)), .val (.int (own_j2_107_0 i1 i2 i4)), .val (.int (((i3 &&& (15 : Int32)) <<< ((6 : Int32) &&& 31)) ||| (i4 &&& (63 : Int32))))] [(.int (1 : Int32))])) t → Steps p.tables e below (s₁.setTop (entryFrame m #[(.int i1), (.int i2), (.int i3), (.int i4), (.int i5), (.int i6)] 10)) t := by
                    intro t k
                    refine pre47 _ ?_
                    show Steps p.tables e below (s₁.setTop (mkF m 173 #[.val (.int i1), .val (.int i2), .val (.int i3), .val (.int i4), .val (.int i5), .val (.int i6), .val (.int (own_j2_4_0 i3)), .val (.int (own_j2_4_1 i3)), .val (.int (own_j2_107_0 i1 i2 i4)), .val (.int (((i3 &&& (15 : Int32)) <<< ((6 : Int32) &&& 31)) ||| (i4 &&& (63 : Int32))))] [(.int (895 : Int32)), (.int (((i3 &&& (15 : Int32)) <<< ((6 : Int32) &&& 31)) ||| (i4 &&& (63 : Int32))))])) _
                    refine XS.icmpNo X0.here hx rfl (hb hby d2_173) rfl (tlt hc173_48).2.2.2 ?_
                    show Steps p.tables e below (s₁.setTop (mkF m 176 #[.val (.int i1), .val (.int i2), .val (.int i3), .val (.int i4), .val (.int i5), .val (.int i6), .val (.int (own_j2_4_0 i3)), .val (.int (own_j2_4_1 i3)), .val (.int (own_j2_107_0 i1 i2 i4)), .val (.int (((i3 &&& (15 : Int32)) <<< ((6 : Int32) &&& 31)) ||| (i4 &&& (63 : Int32))))] [])) _
                    refine XS.iconst X0.here hx rfl (hb hby d2_176) ?_
                    show Steps p.tables e below (s₁.setTop (mkF m 177 #[.val (.int i1), .val (.int i2), .val (.int i3), .val (.int i4), .val (.int i5), .val (.int i6), .val (.int (own_j2_4_0 i3)), .val (.int (own_j2_4_1 i3)), .val (.int (own_j2_107_0 i1 i2 i4)), .val (.int (((i3 &&& (15 : Int32)) <<< ((6 : Int32) &&& 31)) ||| (i4 &&& (63 : Int32))))] [(.int (1 : Int32))])) _
                    refine XS.goto X0.here hx rfl (pc0 := 177) (pc' := 181) rfl (hb hby d2_177) (by decide) (by decide) ?_
                    exact k
                  exact fun t k => pre49 t (by rw [show (own_j2_150_0 i1 i2 i3 i4) = (1 : Int32) from ((if_neg hc150_39).trans ((if_neg hc157_42).trans ((if_neg hc165_45).trans (if_pos hc173_48))))] at k; exact k)
                · have pre50 : ∀ t, Steps p.tables e below (s₁.setTop (mkF m 181 #[.val (.int i1), .val (.int i2), .val (.int i3), .val (.int i4), .val (.int i5), .val (.int i6), .val (.int (own_j2_4_0 i3)), .val (.int (own_j2_4_1 i3)), .val (.int (own_j2_107_0 i1 i2 i4)), .val (.int (((i3 &&& (15 : Int32)) <<< ((6 : Int32) &&& 31)) ||| (i4 &&& (63 : Int32))))] [(.int (0 : Int32))])) t → Steps p.tables e below (s₁.setTop (entryFrame m #[(.int i1), (.int i2), (.int i3), (.int i4), (.int i5), (.int i6)] 10)) t := by
                    intro t k
                    refine pre47 _ ?_
                    show Steps p.tables e below (s₁.setTop (mkF m 173 #[.val (.int i1), .val (.int i2), .val (.int i3), .val (.int i4), .val (.int i5), .val (.int i6), .val (.int (own_j2_4_0 i3)), .val (.int (own_j2_4_1 i3)), .val (.int (own_j2_107_0 i1 i2 i4)), .val (.int (((i3 &&& (15 : Int32)) <<< ((6 : Int32) &&& 31)) ||| (i4 &&& (63 : Int32))))] [(.int (895 : Int32)), (.int (((i3 &&& (15 : Int32)) <<< ((6 : Int32) &&& 31)) ||| (i4 &&& (63 : Int32))))])) _
                    refine XS.icmpYes X0.here hx rfl (pc0 := 173) (pc' := 180) rfl (hb hby d2_173) rfl (flt hc173_48).2.2.2 (by decide) (by decide) ?_
                    show Steps p.tables e below (s₁.setTop (mkF m 180 #[.val (.int i1), .val (.int i2), .val (.int i3), .val (.int i4), .val (.int i5), .val (.int i6), .val (.int (own_j2_4_0 i3)), .val (.int (own_j2_4_1 i3)), .val (.int (own_j2_107_0 i1 i2 i4)), .val (.int (((i3 &&& (15 : Int32)) <<< ((6 : Int32) &&& 31)) ||| (i4 &&& (63 : Int32))))] [])) _
                    refine XS.iconst X0.here hx rfl (hb hby d2_180) ?_
                    exact k
                  exact fun t k => pre50 t (by rw [show (own_j2_150_0 i1 i2 i3 i4) = (0 : Int32) from ((if_neg hc150_39).trans ((if_neg hc157_42).trans ((if_neg hc165_45).trans (if_neg hc173_48))))] at k; exact k)
        have pre52 : ∀ t, Steps p.tables e below (s₁.setTop (mkF m 233 #[.val (.int i1), .val (.int i2), .val (.int i3), .val (.int i4), .val (.int i5), .val (.int i6), .val (.int (own_j2_4_0 i3)), .val (.int (own_j2_4_1 i3)), .val (.int (own_j2_150_0 i1 i2 i3 i4)), .val (.int (((i3 &&& (15 : Int32)) <<< ((6 : Int32) &&& 31)) ||| (i4 &&& (63 : Int32))))] [])) t → Steps p.tables e below (s₁.setTop (entryFrame m #[(.int i1), (.int i2), (.int i3), (.int i4), (.int i5), (.int i6)] 10)) t := by
          intro t k
          refine pre51 _ ?_
          show Steps p.tables e below (s₁.setTop (mkF m 181 #[.val (.int i1), .val (.int i2), .val (.int i3), .val (.int i4), .val (.int i5), .val (.int i6), .val (.int (own_j2_4_0 i3)), .val (.int (own_j2_4_1 i3)), .val (.int (own_j2_107_0 i1 i2 i4)), .val (.int (((i3 &&& (15 : Int32)) <<< ((6 : Int32) &&& 31)) ||| (i4 &&& (63 : Int32))))] [(.int (own_j2_150_0 i1 i2 i3 i4))])) _
          refine XS.istore X0.here hx rfl (hb hby d2_181) rfl (l' := #[.val (.int i1), .val (.int i2), .val (.int i3), .val (.int i4), .val (.int i5), .val (.int i6), .val (.int (own_j2_4_0 i3)), .val (.int (own_j2_4_1 i3)), .val (.int (own_j2_150_0 i1 i2 i3 i4)), .val (.int (((i3 &&& (15 : Int32)) <<< ((6 : Int32) &&& 31)) ||| (i4 &&& (63 : Int32))))]) rfl ?_
          show Steps p.tables e below (s₁.setTop (mkF m 183 #[.val (.int i1), .val (.int i2), .val (.int i3), .val (.int i4), .val (.int i5), .val (.int i6), .val (.int (own_j2_4_0 i3)), .val (.int (own_j2_4_1 i3)), .val (.int (own_j2_150_0 i1 i2 i3 i4)), .val (.int (((i3 &&& (15 : Int32)) <<< ((6 : Int32) &&& 31)) ||| (i4 &&& (63 : Int32))))] [])) _
          refine XS.goto X0.here hx rfl (pc0 := 183) (pc' := 233) rfl (hb hby d2_183) (by decide) (by decide) ?_
          exact k
        exact fun t k => pre52 t (by rw [show (own_j2_131_0 i1 i2 i3 i4) = (own_j2_150_0 i1 i2 i3 i4) from (if_pos hc131_37)] at k; rw [show (own_j2_131_1 i3 i4) = .val (.int (((i3 &&& (15 : Int32)) <<< ((6 : Int32) &&& 31)) ||| (i4 &&& (63 : Int32)))) from (if_pos hc131_37)] at k; exact k)
      · have pre53 : ∀ t, Steps p.tables e below (s₁.setTop (mkF m 189 #[.val (.int i1), .val (.int i2), .val (.int i3), .val (.int i4), .val (.int i5), .val (.int i6), .val (.int (own_j2_4_0 i3)), .val (.int (own_j2_4_1 i3)), .val (.int (own_j2_107_0 i1 i2 i4)), .unset] [(.int (4 : Int32)), (.int (own_j2_4_0 i3))])) t → Steps p.tables e below (s₁.setTop (entryFrame m #[(.int i1), (.int i2), (.int i3), (.int i4), (.int i5), (.int i6)] 10)) t := by
          intro t k
          refine pre36 _ ?_
          show Steps p.tables e below (s₁.setTop (mkF m 131 #[.val (.int i1), .val (.int i2), .val (.int i3), .val (.int i4), .val (.int i5), .val (.int i6), .val (.int (own_j2_4_0 i3)), .val (.int (own_j2_4_1 i3)), .val (.int (own_j2_107_0 i1 i2 i4)), .unset] [(.int (3 : Int32)), (.int (own_j2_4_0 i3))])) _
          refine XS.icmpYes X0.here hx rfl (pc0 := 131) (pc' := 186) rfl (hb hby d2_131) rfl (feq hc131_37).2 (by decide) (by decide) ?_
          show Steps p.tables e below (s₁.setTop (mkF m 186 #[.val (.int i1), .val (.int i2), .val (.int i3), .val (.int i4), .val (.int i5), .val (.int i6), .val (.int (own_j2_4_0 i3)), .val (.int (own_j2_4_1 i3)), .val (.int (own_j2_107_0 i1 i2 i4)), .unset] [])) _
          refine XS.iload X0.here hx rfl (hb hby d2_186) rfl ?_
          show Steps p.tables e below (s₁.setTop (mkF m 188 #[.val (.int i1), .val (.int i2), .val (.int i3), .val (.int i4), .val (.int i5), .val (.int i6), .val (.int (own_j2_4_0 i3)), .val (.int (own_j2_4_1 i3)), .val (.int (own_j2_107_0 i1 i2 i4)), .unset] [(.int (own_j2_4_0 i3))])) _
          refine XS.iconst X0.here hx rfl (hb hby d2_188) ?_
          exact k
        by_cases hc189_54 : (own_j2_4_0 i3) = (4 : Int32)
        · have pre55 : ∀ t, Steps p.tables e below (s₁.setTop (mkF m 208 #[.val (.int i1), .val (.int i2), .val (.int i3), .val (.int i4), .val (.int i5), .val (.int i6), .val (.int (own_j2_4_0 i3)), .val (.int (own_j2_4_1 i3)), .val (.int (own_j2_107_0 i1 i2 i4)), .val (.int (((i3 &&& (7 : Int32)) <<< ((6 : Int32) &&& 31)) ||| (i4 &&& (63 : Int32))))] [(.int (own_j2_107_0 i1 i2 i4))])) t → Steps p.tables e below (s₁.setTop (entryFrame m #[(.int i1), (.int i2), (.int i3), (.int i4), (.int i5), (.int i6)] 10)) t := by
            intro t k
            refine pre53 _ ?_
            show Steps p.tables e below (s₁.setTop (mkF m 189 #[.val (.int i1), .val (.int i2), .val (.int i3), .val (.int i4), .val (.int i5), .val (.int i6), .val (.int (own_j2_4_0 i3)), .val (.int (own_j2_4_1 i3)), .val (.int (own_j2_107_0 i1 i2 i4)), .unset] [(.int (4 : Int32)), (.int (own_j2_4_0 i3))])) _
            refine XS.icmpNo X0.here hx rfl (hb hby d2_189) rfl (teq hc189_54).2 ?_
            show Steps p.tables e below (s₁.setTop (mkF m 192 #[.val (.int i1), .val (.int i2), .val (.int i3), .val (.int i4), .val (.int i5), .val (.int i6), .val (.int (own_j2_4_0 i3)), .val (.int (own_j2_4_1 i3)), .val (.int (own_j2_107_0 i1 i2 i4)), .unset] [])) _
            refine XS.iloadN X0.here hx rfl (hb hby d2_192) rfl ?_
            show Steps p.tables e below (s₁.setTop (mkF m 193 #[.val (.int i1), .val (.int i2), .val (.int i3), .val (.int i4), .val (.int i5), .val (.int i6), .val (.int (own_j2_4_0 i3)), .val (.int (own_j2_4_1 i3)), .val (.int (own_j2_107_0 i1 i2 i4)), .unset] [(.int i3)])) _
            refine XS.bipush X0.here hx rfl (hb hby d2_193) ?_
            show Steps p.tables e below (s₁.setTop (mkF m 195 #[.val (.int i1), .val (.int i2), .val (.int i3), .val (.int i4), .val (.int i5), .val (.int i6), .val (.int (own_j2_4_0 i3)), .val (.int (own_j2_4_1 i3)), .val (.int (own_j2_107_0 i1 i2 i4)), .unset] [(.int (7 : Int32)), (.int i3)])) _
            refine XS.iand X0.here hx rfl (hb hby d2_195) rfl ?_
            show Steps p.tables e below (s₁.setTop (mkF m 196 #[.val (.int i1), .val (.int i2), .val (.int i3), .val (.int i4), .val (.int i5), .val (.int i6), .val (.int (own_j2_4_0 i3)), .val (.int (own_j2_4_1 i3)), .val (.int (own_j2_107_0 i1 i2 i4)), .unset] [(.int (i3 &&& (7 : Int32)))])) _
            refine XS.bipush X0.here hx rfl (hb hby d2_196) ?_
            show Steps p.tables e below (s₁.setTop (mkF m 198 #[.val (.int i1), .val (.int i2), .val (.int i3), .val (.int i4), .val (.int i5), .val (.int i6), .val (.int (own_j2_4_0 i3)), .val (.int (own_j2_4_1 i3)), .val (.int (own_j2_107_0 i1 i2 i4)), .unset] [(.int (6 : Int32)), (.int (i3 &&& (7 : Int32)))])) _
            refine XS.ishl X0.here hx rfl (hb hby d2_198) rfl ?_
            show Steps p.tables e below (s₁.setTop (mkF m 199 #[.val (.int i1), .val (.int i2), .val (.int i3), .val (.int i4), .val (.int i5), .val (.int i6), .val (.int (own_j2_4_0 i3)), .val (.int (own_j2_4_1 i3)), .val (.int (own_j2_107_0 i1 i2 i4)), .unset] [(.int ((i3 &&& (7 : Int32)) <<< ((6 : Int32) &&& 31)))])) _
            refine XS.iloadN X0.here hx rfl (hb hby d2_199) rfl ?_
            show Steps p.tables e below (s₁.setTop (mkF m 200 #[.val (.int i1), .val (.int i2), .val (.int i3), .val (.int i4), .val (.int i5), .val (.int i6), .val (.int (own_j2_4_0 i3)), .val (.int (own_j2_4_1 i3)), .val (.int (own_j2_107_0 i1 i2 i4)), .unset] [(.int i4), (.int ((i3 &&& (7 : Int32)) <<< ((6 : Int32) &&& 31)))])) _
            refine XS.bipush X0.here hx rfl (hb hby d2_200) ?_
            show Steps p.tables e below (s₁.setTop (mkF m 202 #[.val (.int i1), .val (.int i2), .val (.int i3), .val (.int i4), .val (.int i5), .val (.int i6), .val (.int (own_j2_4_0 i3)), .val (.int (own_j2_4_1 i3)), .val (.int (own_j2_107_0 i1 i2 i4)), .unset] [(.int (63 : Int32)), (.int i4), (.int ((i3 &&& (7 : Int32)) <<< ((6 : Int32) &&& 31)))])) _
            refine XS.iand X0.here hx rfl (hb hby d2_202) rfl ?_
            show Steps p.tables e below (s₁.setTop (mkF m 203 #[.val (.int i1), .val (.int i2), .val (.int i3), .val (.int i4), .val (.int i5), .val (.int i6), .val (.int (own_j2_4_0 i3)), .val (.int (own_j2_4_1 i3)), .val (.int (own_j2_107_0 i1 i2 i4)), .unset] [(.int (i4 &&& (63 : Int32))), (.int ((i3 &&& (7 : Int32)) <<< ((6 : Int32) &&& 31)))])) _
            refine XS.ior X0.here hx rfl (hb hby d2_203) rfl ?_
            show Steps p.tables e below (s₁.setTop (mkF m 204 #[.val (.int i1), .val (.int i2), .val (.int i3), .val (.int i4), .val (.int i5), .val (.int i6), .val (.int (own_j2_4_0 i3)), .val (.int (own_j2_4_1 i3)), .val (.int (own_j2_107_0 i1 i2 i4)), .unset] [(.int (((i3 &&& (7 : Int32)) <<< ((6 : Int32) &&& 31)) ||| (i4 &&& (63 : Int32))))])) _
            refine XS.istore X0.here hx rfl (hb hby d2_204) rfl (l' := #[.val (.int i1), .val (.int i2), .val (.int i3), .val (.int i4), .val (.int i5), .val (.int i6), .val (.int (own_j2_4_0 i3)), .val (.int (own_j2_4_1 i3)), .val (.int (own_j2_107_0 i1 i2 i4)), .val (.int (((i3 &&& (7 : Int32)) <<< ((6 : Int32) &&& 31)) ||| (i4 &&& (63 : Int32))))]) rfl ?_
            show Steps p.tables e below (s₁.setTop (mkF m 206 #[.val (.int i1), .val (.int i2), .val (.int i3), .val (.int i4), .val (.int i5), .val (.int i6), .val (.int (own_j2_4_0 i3)), .val (.int (own_j2_4_1 i3)), .val (.int (own_j2_107_0 i1 i2 i4)), .val (.int (((i3 &&& (7 : Int32)) <<< ((6 : Int32) &&& 31)) ||| (i4 &&& (63 : Int32))))] [])) _
            refine XS.iload X0.here hx rfl (hb hby d2_206) rfl ?_
            exact k
          have pre65 : ∀ t, Steps p.tables e below (s₁.setTop (mkF m 231 #[.val (.int i1), .val (.int i2), .val (.int i3), .val (.int i4), .val (.int i5), .val (.int i6), .val (.int (own_j2_4_0 i3)), .val (.int (own_j2_4_1 i3)), .val (.int (own_j2_107_0 i1 i2 i4)), .val (.int (((i3 &&& (7 : Int32)) <<< ((6 : Int32) &&& 31)) ||| (i4 &&& (63 : Int32))))] [(.int (own_j2_208_0 i1 i2 i3 i4))])) t → Steps p.tables e below (s₁.setTop (entryFrame m #[(.int i1), (.int i2), (.int i3), (.int i4), (.int i5), (.int i6)] 10)) t := by
            by_cases hc208_56 : (own_j2_107_0 i1 i2 i4) = (0 : Int32)
            · have pre57 : ∀ t, Steps p.tables e below (s₁.setTop (mkF m 231 #[.val (.int i1), .val (.int i2), .val (.int i3), .val (.int i4), .val (.int i5), .val (.int i6), .val (.int (own_j2_4_0 i3)), .val (.int (own_j2_4_1 i3)), .val (.int (own_j2_107_0 i1 i2 i4)), .val (.int (((i3 &&& (7 : Int32)) <<< ((6 : Int32) &&& 31)) ||| (i4 &&& (63 : Int32))))] [(.int (0 : Int32))])) t → Steps p.tables e below (s₁.setTop (entryFrame m #[(.int i1), (.int i2), (.int i3), (.int i4), (.int i5), (.int i6)] 10)) t := by
                intro t k
                refine pre55 _ ?_
                show Steps p.tables e below (s₁.setTop (mkF m 208 #[.val (.int i1), .val (.int i2), .val (.int i3), .val (.int i4), .val (.int i5), .val (.int i6), .val (.int (own_j2_4_0 i3)), .val (.int (own_j2_4_1 i3)), .val (.int (own_j2_107_0 i1 i2 i4)), .val (.int (((i3 &&& (7 : Int32)) <<< ((6 : Int32) &&& 31)) ||| (i4 &&& (63 : Int32))))] [(.int (own_j2_107_0 i1 i2 i4))])) _
                refine XS.ifYes X0.here hx rfl (pc0 := 208) (pc' := 230) rfl (hb hby d2_208) rfl ((if0 _ _).trans (teq hc208_56).1) (by decide) (by decide) ?_
                show Steps p.tables e below (s₁.setTop (mkF m 230 #[.val (.int i1), .val (.int i2), .val (.int i3), .val (.int i4), .val (.int i5), .val (.int i6), .val (.int (own_j2_4_0 i3)), .val (.int (own_j2_4_1 i3)), .val (.int (own_j2_107_0 i1 i2 i4)), .val (.int (((i3 &&& (7 : Int32)) <<< ((6 : Int32) &&& 31)) ||| (i4 &&& (63 : Int32))))] [])) _
                refine XS.iconst X0.here hx rfl (hb hby d2_230) ?_
                exact k
              exact fun t k => pre57 t (by rw [show (own_j2_208_0 i1 i2 i3 i4) = (0 : Int32) from (if_pos hc208_56)] at k; exact k)
            · have pre58 : ∀ t, Steps p.tables e below (s₁.setTop (mkF m 215 #[.val (.int i1), .val (.int i2), .val (.int i3), .val (.int i4), .val (.int i5), .val (.int i6), .val (.int (own_j2_4_0 i3)), .val (.int (own_j2_4_1 i3)), .val (.int (own_j2_107_0 i1 i2 i4)), .val (.int (((i3 &&& (7 : Int32)) <<< ((6 : Int32) &&& 31)) ||| (i4 &&& (63 : Int32))))] [(.int (16 : Int32)), (.int (((i3 &&& (7 : Int32)) <<< ((6 : Int32) &&& 31)) ||| (i4 &&& (63 : Int32))))])) t → Steps p.tables e below (s₁.setTop (entryFrame m #[(.int i1), (.int i2), (.int i3), (.int i4), (.int i5), (.int i6)] 10)) t := by
                intro t k
                refine pre55 _ ?_
                show Steps p.tables e below (s₁.setTop (mkF m 208 #[.val (.int i1), .val (.int i2), .val (.int i3), .val (.int i4), .val (.int i5), .val (.int i6), .val (.int (own_j2_4_0 i3)), .val (.int (own_j2_4_1 i3)), .val (.int (own_j2_107_0 i1 i2 i4)), .val (.int (((i3 &&& (7 : Int32)) <<< ((6 : Int32) &&& 31)) ||| (i4 &&& (63 : Int32))))] [(.int (own_j2_107_0 i1 i2 i4))])) _
                refine XS.ifNo X0.here hx rfl (hb hby d2_208) rfl ((if0 _ _).trans (feq hc208_56).1) ?_
                show Steps p.tables e below (s₁.setTop (mkF m 211 #[.val (.int i1), .val (.int i2), .val (.int i3), .val (.int i4), .val (.int i5), .val (.int i6), .val (.int (own_j2_4_0 i3)), .val (.int (own_j2_4_1 i3)), .val (.int (own_j2_107_0 i1 i2 i4)), .val (.int (((i3 &&& (7 : Int32)) <<< ((6 : Int32) &&& 31)) ||| (i4 &&& (63 : Int32))))] [])) _
                refine XS.iload X0.here hx rfl (hb hby d2_211) rfl ?_
                show Steps p.tables e below (s₁.setTop (mkF m 213 #[.val (.int i1), .val (.int i2), .val (.int i3), .val (.int i4), .val (.int i5), .val (.int i6), .val (.int (own_j2_4_0 i3)), .val (.int (own_j2_4_1 i3)), .val (.int (own_j2_107_0 i1 i2 i4)), .val (.int (((i3 &&& (7 : Int32)) <<< ((6 : Int32) &&& 31)) ||| (i4 &&& (63 : Int32))))] [(.int (((i3 &&& (7 : Int32)) <<< ((6 : Int32) &&& 31)) ||| (i4 &&& (63 : Int32))))])) _
                refine XS.bipush X0.here hx rfl (hb hby d2_213) ?_
                exact k
              by_cases hc215_59 : (((i3 &&& (7 : Int32)) <<< ((6 : Int32) &&& 31)) ||| (i4 &&& (63 : Int32))) < (16 : Int32)
              · have pre60 : ∀ t, Steps p.tables e below (s₁.setTop (mkF m 231 #[.val (.int i1), .val (.int i2), .val (.int i3), .val (.int i4), .val (.int i5), .val (.int i6), .val (.int (own_j2_4_0 i3)), .val (.int (own_j2_4_1 i3)), .val (.int (own_j2_107_0 i1 i2 i4)), .val (.int (((i3 &&& (7 : Int32)) <<< ((6 : Int32) &&& 31)) ||| (i4 &&& (63 : Int32))))] [(.int (0 : Int32))])) t → Steps p.tables e below (s₁.setTop (entryFrame m #[(.int i1), (.int i2), (.int i3), (.int i4), (.int i5), (.int i6)] 10)) t := by
                  intro t k
                  refine pre58 _ ?_
                  show Steps p.tables e below (s₁.setTop (mkF m 215 #[.val (.int i1), .val (.int i2), .val (.int i3), .val (.int i4), .val (.int i5), .val (.int i6), .val (.int (own_j2_4_0 i3)), .val (.int (own_j2_4_1 i3)), .val (.int (own_j2_107_0 i1 i2 i4)), .val (.int (((i3 &&& (7 : Int32)) <<< ((6 : Int32) &&& 31)) ||| (i4 &&& (63 : Int32))))] [(.int (16 : Int32)), (.int (((i3 &&& (7 : Int32)) <<< ((6 : Int32) &&& 31)) ||| (i4 &&& (63 : Int32))))])) _
                  refine XS.icmpYes X0.here hx rfl (pc0 := 215) (pc' := 230) rfl (hb hby d2_215) rfl (tlt hc215_59).1 (by decide) (by decide) ?_
                  show Steps p.tables e below (s₁.setTop (mkF m 230 #[.val (.int i1), .val (.int i2), .val (.int i3), .val (.int i4), .val (.int i5), .val (.int i6), .val (.int (own_j2_4_0 i3)), .val (.int (own_j2_4_1 i3)), .val (.int (own_j2_107_0 i1 i2 i4)), .val (.int (((i3 &&& (7 : Int32)) <<< ((6 : Int32) &&& 31)) ||| (i4 &&& (63 : Int32))))] [])) _
                  refine XS.iconst X0.here hx rfl (hb hby d2_230) ?_
                  exact k
                exact fun t k => pre60 t (by rw [show (own_j2_208_0 i1 i2 i3 i4) = (0 : Int32) from ((if_neg hc208_56).trans (if_pos hc215_59))] at k; exact k)
              · have pre61 : ∀ t, Steps p.tables e below (s₁.setTop (mkF m 223 #[.val (.int i1), .val (.int i2), .val (.int i3), .val (.int i4), .val (.int i5), .val (.int i6), .val (.int (own_j2_4_0 i3)), .val (.int (own_j2_4_1 i3)), .val (.int (own_j2_107_0 i1 i2 i4)), .val (.int (((i3 &&& (7 : Int32)) <<< ((6 : Int32) &&& 31)) ||| (i4 &&& (63 : Int32))))] [(.int (271 : Int32)), (.int (((i3 &&& (7 : Int32)) <<< ((6 : Int32) &&& 31)) ||| (i4 &&& (63 : Int32))))])) t → Steps p.tables e below (s₁.setTop (entryFrame m #[(.int i1), (.int i2), (.int i3), (.int i4), (.int i5), (.int i6)] 10)) t := by
                  intro t k
                  refine pre58 _ ?_
                  show Steps p.tables e below (s₁.setTop (mkF m 215 #[.val (.int i1), .val (.int i2), .val (.int i3), .val (.int i4), .val (.int i5), .val (.int i6), .val (.int (own_j2_4_0 i3)), .val (.int (own_j2_4_1 i3)), .val (.int (own_j2_107_0 i1 i2 i4)), .val (.int (((i3 &&& (7 : Int32)) <<< ((6 : Int32) &&& 31)) ||| (i4 &&& (63 : Int32))))] [(.int (16 : Int32)), (.int (((i3 &&& (7 : Int32)) <<< ((6 : Int32) &&& 31)) ||| (i4 &&& (63 : Int32))))])) _
                  refine XS.icmpNo X0.here hx rfl (hb hby d2_215) rfl (flt hc215_59).1 ?_
                  show Steps p.tables e below (s₁.setTop (mkF m 218 #[.val (.int i1), .val (.int i2), .val (.int i3), .val (.int i4), .val (.int i5), .val (.int i6), .val (.int (own_j2_4_0 i3)), .val (.int (own_j2_4_1 i3)), .val (.int (own_j2_107_0 i1 i2 i4)), .val (.int (((i3 &&& (7 : Int32)) <<< ((6 : Int32) &&& 31)) ||| (i4 &&& (63 : Int32))))] [])) _
                  refine XS.iload X0.here hx rfl (hb hby d2_218) rfl ?_
                  show Steps p.tables e below (s₁.setTop (mkF m 220 #[.val (.int i1), .val (.int i2), .val (.int i3), .val (.int i4), .val (.int i5), .val (.int i6), .val (.int (own_j2_4_0 i3)), .val (.int (own_j2_4_1 i3)), .val (.int (own_j2_107_0 i1 i2 i4)), .val (.int (((i3 &&& (7 : Int32)) <<< ((6 : Int32) &&& 31)) ||| (i4 &&& (63 : Int32))))] [(.int (((i3 &&& (7 : Int32)) <<< ((6 : Int32) &&& 31)) ||| (i4 &&& (63 : Int32))))])) _
                  refine XS.sipush X0.here hx rfl (hb hby d2_220) ?_
                  exact k
                by_cases hc223_62 : (271 : Int32) < (((i3 &&& (7 : Int32)) <<< ((6 : Int32) &&& 31)) ||| (i4 &&& (63 : Int32)))
                · have pre63 : ∀ t, Steps p.tables e below (s₁.setTop (mkF m 231 #[.val (.int i1), .val (.int i2), .val (.int i3), .val (.int i4), .val (.int i5), .val (.int i6), .val (.int (own_j2_4_0 i3)), .val (.int (own_j2_4_1 i3)), .val (.int (own_j2_107_0 i1 i2 i4)), .val (.int (((i3 &&& (7 : Int32)) <<< ((6 : Int32) &&& 31)) ||| (i4 &&& (63 : Int32))))] [(.int (0 : Int32))])) t → Steps p.tables e below (s₁.setTop (entryFrame m #[(.int i1), (.int i2), (.int i3), (.int i4), (.int i5), (.int i6)] 10)) t := by
                    intro t k
                    refine pre61 _ ?_
                    show Steps p.tables e below (s₁.setTop (mkF m 223 #[.val (.int i1), .val (.int i2), .val (.int i3), .val (.int i4), .val (.int i5), .val (.int i6), .val (.int (own_j2_4_0 i3)), .val (.int (own_j2_4_1 i3)), .val (.int (own_j2_107_0 i1 i2 i4)), .val (.int (((i3 &&& (7 : Int32)) <<< ((6 : Int32) &&& 31)) ||| (i4 &&& (63 : Int32))))] [(.int (271 : Int32)), (.int (((i3 &&& (7 : Int32)) <<< ((6 : Int32) &&& 31)) ||| (i4 &&& (63 : Int32))))])) _
                    refine XS.icmpYes X0.here hx rfl (pc0 := 223) (pc' := 230) rfl (hb hby d2_223) rfl (tlt hc223_62).2.2.1 (by decide) (by decide) ?_
                    show Steps p.tables e below (s₁.setTop (mkF m 230 #[.val (.int i1), .val (.int i2), .val (.int i3), .val (.int i4), .val (.int i5), .val (.int i6), .val (.int (own_j2_4_0 i3)), .val (.int (own_j2_4_1 i3)), .val (.int (own_j2_107_0 i1 i2 i4)), .val (.int (((i3 &&& (7 : Int32)) <<< ((6 : Int32) &&& 31)) ||| (i4 &&& (63 : Int32))))] [])) _
                    refine XS.iconst X0.here hx rfl (hb hby d2_230) ?_
                    exact k
                  exact fun t k => pre63 t (by rw [show (own_j2_208_0 i1 i2 i3 i4) = (0 : Int32) from ((if_neg hc208_56).trans ((if_neg hc215_59).trans (if_pos hc223_62)))] at k; exact k)
                · have pre64 : ∀ t, Steps p.tables e below (s₁.setTop (mkF m 231 #[.val (.int i1), .val (.int i2), .val (.int i3), .val (.int i4), .val (.int i5), .val (.int i6), .val (.int (own_j2_4_0 i3)), .val (.int (own_j2_4_1 i3)), .val (.int (own_j2_107_0 i1 i2 i4)), .val (.int (((i3 &&& (7 : Int32)) <<< ((6 : Int32) &&& 31)) ||| (i4 &&& (63 : Int32))))] [(.int (1 : Int32))])) t → Steps p.tables e below (s₁.setTop (entryFrame m #[(.int i1), (.int i2), (.int i3), (.int i4), (.int i5), (.int i6)] 10)) t := by
                    intro t k
                    refine pre61 _ ?_
                    show Steps p.tables e below (s₁.setTop (mkF m 223 #[.val (.int i1), .val (.int i2), .val (.int i3), .val (.int i4), .val (.int i5), .val (.int i6), .val (.int (own_j2_4_0 i3)), .val (.int (own_j2_4_1 i3)), .val (.int (own_j2_107_0 i1 i2 i4)), .val (.int (((i3 &&& (7 : Int32)) <<< ((6 : Int32) &&& 31)) ||| (i4 &&& (63 : Int32))))] [(.int (271 : Int32)), (.int (((i3 &&& (7 : Int32)) <<< ((6 : Int32) &&& 31)) ||| (i4 &&& (63 : Int32))))])) _
                    refine XS.icmpNo X0.here hx rfl (hb hby d2_223) rfl (flt hc223_62).2.2.1 ?_
                    show Steps p.tables e below (s₁.setTop (mkF m 226 #[.val (.int i1), .val (.int i2), .val (.int i3), .val (.int i4), .val (.int i5), .val (.int i6), .val (.int (own_j2_4_0 i3)), .val (.int (own_j2_4_1 i3)), .val (.int (own_j2_107_0 i1 i2 i4)), .val (.int (((i3 &&& (7 : Int32)) <<< ((6 : Int32) &&& 31)) ||| (i4 &&& (63 : Int32))))] [])) _
                    refine XS.iconst X0.here hx rfl (hb hby d2_226) ?_
                    show Steps p.tables e below (s₁.setTop (mkF m 227 #[.val (.int i1), .val (.int i2), .val (.int i3), .val (.int i4), .val (.int i5), .val (.int i6), .val (.int (own_j2_4_0 i3)), .val (.int (own_j2_4_1 i3)), .val (.int (own_j2_107_0 i1 i2 i4)), .val (.int (((i3 &&& (7 : Int32)) <<< ((6 : Int32) &&& 31)) ||| (i4 &&& (63 : Int32))))] [(.int (1 : Int32))])) _
                    refine XS.goto X0.here hx rfl (pc0 := 227) (pc' := 231) rfl (hb hby d2_227) (by decide) (by decide) ?_
                    exact k
                  exact fun t k => pre64 t (by rw [show (own_j2_208_0 i1 i2 i3 i4) = (1 : Int32) from ((if_neg hc208_56).trans ((if_neg hc215_59).trans (if_neg hc223_62)))] at k; exact k)
          have pre66 : ∀ t, Steps p.tables e below (s₁.setTop (mkF m 233 #[.val (.int i1), .val (.int i2), .val (.int i3), .val (.int i4), .val (.int i5), .val (.int i6), .val (.int (own_j2_4_0 i3)), .val (.int (own_j2_4_1 i3)), .val (.int (own_j2_208_0 i1 i2 i3 i4)), .val (.int (((i3 &&& (7 : Int32)) <<< ((6 : Int32) &&& 31)) ||| (i4 &&& (63 : Int32))))] [])) t → Steps p.tables e below (s₁.setTop (entryFrame m #[(.int i1), (.int i2), (.int i3), (.int i4), (.int i5), (.int i6)] 10)) t := by
            intro t k
            refine pre65 _ ?_
            show Steps p.tables e below (s₁.setTop (mkF m 231 #[.val (.int i1), .val (.int i2), .val (.int i3), .val (.int i4), .val (.int i5), .val (.int i6), .val (.int (own_j2_4_0 i3)), .val (.int (own_j2_4_1 i3)), .val (.int (own_j2_107_0 i1 i2 i4)), .val (.int (((i3 &&& (7 : Int32)) <<< ((6 : Int32) &&& 31)) ||| (i4 &&& (63 : Int32))))] [(.int (own_j2_208_0 i1 i2 i3 i4))])) _
            refine XS.istore X0.here hx rfl (hb hby d2_231) rfl (l' := #[.val (.int i1), .val (.int i2), .val (.int i3), .val (.int i4), .val (.int i5), .val (.int i6), .val (.int (own_j2_4_0 i3)), .val (.int (own_j2_4_1 i3)), .val (.int (own_j2_208_0 i1 i2 i3 i4)), .val (.int (((i3 &&& (7 : Int32)) <<< ((6 : Int32) &&& 31)) ||| (i4 &&& (63 : Int32))))]) rfl ?_
            exact k
          exact fun t k => pre66 t (by rw [show (own_j2_131_0 i1 i2 i3 i4) = (own_j2_208_0 i1 i2 i3 i4) from ((if_neg hc131_37).trans (if_pos hc189_54))] at k; rw [show (own_j2_131_1 i3 i4) = .val (.int (((i3 &&& (7 : Int32)) <<< ((6 : Int32) &&& 31)) ||| (i4 &&& (63 : Int32)))) from ((if_neg hc131_37).trans (if_pos hc189_54))] at k; exact k)
        · have pre67 : ∀ t, Steps p.tables e below (s₁.setTop (mkF m 233 #[.val (.int i1), .val (.int i2), .val (.int i3), .val (.int i4), .val (.int i5), .val (.int i6), .val (.int (own_j2_4_0 i3)), .val (.int (own_j2_4_1 i3)), .val (.int (own_j2_107_0 i1 i2 i4)), .unset] [])) t → Steps p.tables e below (s₁.setTop (entryFrame m #[(.int i1), (.int i2), (.int i3), (.int i4), (.int i5), (.int i6)] 10)) t := by
            intro t k
            refine pre53 _ ?_
            show Steps p.tables e below (s₁.setTop (mkF m 189 #[.val (.int i1), .val (.int i2), .val (.int i3), .val (.int i4), .val (.int i5), .val (.int i6), .val (.int (own_j2_4_0 i3)), .val (.int (own_j2_4_1 i3)), .val (.int (own_j2_107_0 i1 i2 i4)), .unset] [(.int (4 : Int32)), (.int (own_j2_4_0 i3))])) _
            refine XS.icmpYes X0.here hx rfl (pc0 := 189) (pc' := 233) rfl (hb hby d2_189) rfl (feq hc189_54).2 (by decide) (by decide) ?_
            exact k
          exact fun t k => pre67 t (by rw [show (own_j2_131_0 i1 i2 i3 i4) = (own_j2_107_0 i1 i2 i4) from ((if_neg hc131_37).trans (if_neg hc189_54))] at k; rw [show (own_j2_131_1 i3 i4) = .unset from ((if_neg hc131_37).trans (if_neg hc189_54))] at k; exact k)
    have pre69 : ∀ t, Steps p.tables e below (s₁.setTop (mkF m 235 #[.val (.int i1), .val (.int i2), .val (.int i3), .val (.int i4), .val (.int i5), .val (.int i6), .val (.int (own_j2_4_0 i3)), .val (.int (own_j2_4_1 i3)), .val (.int (own_j2_131_0 i1 i2 i3 i4)), (own_j2_131_1 i3 i4)] [(.int (own_j2_131_0 i1 i2 i3 i4))])) t → Steps p.tables e below (s₁.setTop (entryFrame m #[(.int i1), (.int i2), (.int i3), (.int i4), (.int i5), (.int i6)] 10)) t := by
      intro t k
      refine pre68 _ ?_
      show Steps p.tables e below (s₁.setTop (mkF m 233 #[.val (.int i1), .val (.int i2), .val (.int i3), .val (.int i4), .val (.int i5), .val (.int i6), .val (.int (own_j2_4_0 i3)), .val (.int (own_j2_4_1 i3)), .val (.int (own_j2_131_0 i1 i2 i3 i4)), (own_j2_131_1 i3 i4)] [])) _
      refine XS.iload X0.here hx rfl (hb hby d2_233) rfl ?_
      exact k
    by_cases hc235_70 : (own_j2_131_0 i1 i2 i3 i4) = (0 : Int32)
    · have pre71 : ∀ t, Steps p.tables e below (s₁.setTop (mkF m 243 #[.val (.int i1), .val (.int i2), .val (.int i3), .val (.int i4), .val (.int i5), .val (.int i6), .val (.int (own_j2_4_0 i3)), .val (.int (own_j2_4_1 i3)), .val (.int (own_j2_131_0 i1 i2 i3 i4)), (own_j2_131_1 i3 i4)] [(.int ((i1 + (1 : Int32)) ^^^ (-1 : Int32)))])) t → Steps p.tables e below (s₁.setTop (entryFrame m #[(.int i1), (.int i2), (.int i3), (.int i4), (.int i5), (.int i6)] 10)) t := by
        intro t k
        refine pre69 _ ?_
        show Steps p.tables e below (s₁.setTop (mkF m 235 #[.val (.int i1), .val (.int i2), .val (.int i3), .val (.int i4), .val (.int i5), .val (.int i6), .val (.int (own_j2_4_0 i3)), .val (.int (own_j2_4_1 i3)), .val (.int (own_j2_131_0 i1 i2 i3 i4)), (own_j2_131_1 i3 i4)] [(.int (own_j2_131_0 i1 i2 i3 i4))])) _
        refine XS.ifNo X0.here hx rfl (hb hby d2_235) rfl ((if0 _ _).trans (teq hc235_70).2) ?_
        show Steps p.tables e below (s₁.setTop (mkF m 238 #[.val (.int i1), .val (.int i2), .val (.int i3), .val (.int i4), .val (.int i5), .val (.int i6), .val (.int (own_j2_4_0 i3)), .val (.int (own_j2_4_1 i3)), .val (.int (own_j2_131_0 i1 i2 i3 i4)), (own_j2_131_1 i3 i4)] [])) _
        refine XS.iloadN X0.here hx rfl (hb hby d2_238) rfl ?_
        show Steps p.tables e below (s₁.setTop (mkF m 239 #[.val (.int i1), .val (.int i2), .val (.int i3), .val (.int i4), .val (.int i5), .val (.int i6), .val (.int (own_j2_4_0 i3)), .val (.int (own_j2_4_1 i3)), .val (.int (own_j2_131_0 i1 i2 i3 i4)), (own_j2_131_1 i3 i4)] [(.int i1)])) _
        refine XS.iconst X0.here hx rfl (hb hby d2_239) ?_
        show Steps p.tables e below (s₁.setTop (mkF m 240 #[.val (.int i1), .val (.int i2), .val (.int i3), .val (.int i4), .val (.int i5), .val (.int i6), .val (.int (own_j2_4_0 i3)), .val (.int (own_j2_4_1 i3)), .val (.int (own_j2_131_0 i1 i2 i3 i4)), (own_j2_131_1 i3 i4)] [(.int (1 : Int32)), (.int i1)])) _
        refine XS.iadd X0.here hx rfl (hb hby d2_240) rfl ?_
        show Steps p.tables e below (s₁.setTop (mkF m 241 #[.val (.int i1), .val (.int i2), .val (.int i3), .val (.int i4), .val (.int i5), .val (.int i6), .val (.int (own_j2_4_0 i3)), .val (.int (own_j2_4_1 i3)), .val (.int (own_j2_131_0 i1 i2 i3 i4)), (own_j2_131_1 i3 i4)] [(.int (i1 + (1 : Int32)))])) _
        refine XS.iconst X0.here hx rfl (hb hby d2_241) ?_
        show Steps p.tables e below (s₁.setTop (mkF m 242 #[.val (.int i1), .val (.int i2), .val (.int i3), .val (.int i4), .val (.int i5), .val (.int i6), .val (.int (own_j2_4_0 i3)), .val (.int (own_j2_4_1 i3)), .val (.int (own_j2_131_0 i1 i2 i3 i4)), (own_j2_131_1 i3 i4)] [(.int (-1 : Int32)), (.int (i1 + (1 : Int32)))])) _
        refine XS.ixor X0.here hx rfl (hb hby d2_242) rfl ?_
        exact k
      obtain ⟨fs, hr, hrun, hended, hW, hsame⟩ := X0.leave (v := some (.int ((i1 + (1 : Int32)) ^^^ (-1 : Int32)))) (fun h => by rw [Bd.returns] at h; cases h)
      refine ⟨_, _, pre71 _ ?_, hrun, hended, _, _, rfl, ?_, ⟨_, rfl⟩, hW, hsame.mono (by decide) (by decide)⟩
      · show Steps p.tables e below (s₁.setTop (mkF m 243 #[.val (.int i1), .val (.int i2), .val (.int i3), .val (.int i4), .val (.int i5), .val (.int i6), .val (.int (own_j2_4_0 i3)), .val (.int (own_j2_4_1 i3)), .val (.int (own_j2_131_0 i1 i2 i3 i4)), (own_j2_131_1 i3 i4)] [(.int ((i1 + (1 : Int32)) ^^^ (-1 : Int32)))])) _
        exact retI X0 hx Bd.returns (hb hby d2_243) hr
      · show Q2 Z i1 i2 i3 i4 i5 i6 h0 n0 _ s₁.heap _
        rw [e0]
        exact ⟨congrArg (fun z => some (Value.int z)) (show (own_r2 i1 i2 i3 i4 i5 i6) = ((i1 + (1 : Int32)) ^^^ (-1 : Int32)) from ((if_neg hc96_26).trans (if_pos hc235_70))).symm, N0, rfl⟩
    · have pre72 : ∀ t, Steps p.tables e below (s₁.setTop (mkF m 247 #[.val (.int i1), .val (.int i2), .val (.int i3), .val (.int i4), .val (.int i5), .val (.int i6), .val (.int (own_j2_4_0 i3)), .val (.int (own_j2_4_1 i3)), .val (.int (own_j2_131_0 i1 i2 i3 i4)), (own_j2_131_1 i3 i4)] [(.int (2 : Int32)), (.int (own_j2_4_0 i3))])) t → Steps p.tables e below (s₁.setTop (entryFrame m #[(.int i1), (.int i2), (.int i3), (.int i4), (.int i5), (.int i6)] 10)) t := by
        intro t k
        refine pre69 _ ?_
        show Steps p.tables e below (s₁.setTop (mkF m 235 #[.val (.int i1), .val (.int i2), .val (.int i3), .val (.int i4), .val (.int i5), .val (.int i6), .val (.int (own_j2_4_0 i3)), .val (.int (own_j2_4_1 i3)), .val (.int (own_j2_131_0 i1 i2 i3 i4)), (own_j2_131_1 i3 i4)] [(.int (own_j2_131_0 i1 i2 i3 i4))])) _
        refine XS.ifYes X0.here hx rfl (pc0 := 235) (pc' := 244) rfl (hb hby d2_235) rfl ((if0 _ _).trans (feq hc235_70).2) (by decide) (by decide) ?_
        show Steps p.tables e below (s₁.setTop (mkF m 244 #[.val (.int i1), .val (.int i2), .val (.int i3), .val (.int i4), .val (.int i5), .val (.int i6), .val (.int (own_j2_4_0 i3)), .val (.int (own_j2_4_1 i3)), .val (.int (own_j2_131_0 i1 i2 i3 i4)), (own_j2_131_1 i3 i4)] [])) _
        refine XS.iload X0.here hx rfl (hb hby d2_244) rfl ?_
        show Steps p.tables e below (s₁.setTop (mkF m 246 #[.val (.int i1), .val (.int i2), .val (.int i3), .val (.int i4), .val (.int i5), .val (.int i6), .val (.int (own_j2_4_0 i3)), .val (.int (own_j2_4_1 i3)), .val (.int (own_j2_131_0 i1 i2 i3 i4)), (own_j2_131_1 i3 i4)] [(.int (own_j2_4_0 i3))])) _
        refine XS.iconst X0.here hx rfl (hb hby d2_246) ?_
        exact k
      by_cases hc247_73 : (own_j2_4_0 i3) = (2 : Int32)
      · have pre74 : ∀ t, Steps p.tables e below (s₁.setTop (mkF m 253 #[.val (.int i1), .val (.int i2), .val (.int i3), .val (.int i4), .val (.int i5), .val (.int i6), .val (.int (own_j2_4_0 i3)), .val (.int (own_j2_4_1 i3)), .val (.int (own_j2_131_0 i1 i2 i3 i4)), (own_j2_131_1 i3 i4)] [(.int (i1 + (2 : Int32)))])) t → Steps p.tables e below (s₁.setTop (entryFrame m #[(.int i1), (.int i2), (.int i3), (.int i4), (.int i5), (.int i6)] 10)) t := by
          intro t k
          refine pre72 _ ?_
          show Steps p.tables e below (s₁.setTop (mkF m 247 #[.val (.int i1), .val (.int i2), .val (.int i3), .val (.int i4), .val (.int i5), .val (.int i6), .val (.int (own_j2_4_0 i3)), .val (.int (own_j2_4_1 i3)), .val (.int (own_j2_131_0 i1 i2 i3 i4)), (own_j2_131_1 i3 i4)] [(.int (2 : Int32)), (.int (own_j2_4_0 i3))])) _
          refine XS.icmpNo X0.here hx rfl (hb hby d2_247) rfl (teq hc247_73).2 ?_
          show Steps p.tables e below (s₁.setTop (mkF m 250 #[.val (.int i1), .val (.int i2), .val (.int i3), .val (.int i4), .val (.int i5), .val (.int i6), .val (.int (own_j2_4_0 i3)), .val (.int (own_j2_4_1 i3)), .val (.int (own_j2_131_0 i1 i2 i3 i4)), (own_j2_131_1 i3 i4)] [])) _
          refine XS.iloadN X0.here hx rfl (hb hby d2_250) rfl ?_
          show Steps p.tables e below (s₁.setTop (mkF m 251 #[.val (.int i1), .val (.int i2), .val (.int i3), .val (.int i4), .val (.int i5), .val (.int i6), .val (.int (own_j2_4_0 i3)), .val (.int (own_j2_4_1 i3)), .val (.int (own_j2_131_0 i1 i2 i3 i4)), (own_j2_131_1 i3 i4)] [(.int i1)])) _
          refine XS.iconst X0.here hx rfl (hb hby d2_251) ?_
          show Steps p.tables e below (s₁.setTop (mkF m 252 #[.val (.int i1), .val (.int i2), .val (.int i3), .val (.int i4), .val (.int i5), .val (.int i6), .val (.int (own_j2_4_0 i3)), .val (.int (own_j2_4_1 i3)), .val (.int (own_j2_131_0 i1 i2 i3 i4)), (own_j2_131_1 i3 i4)] [(.int (2 : Int32)), (.int i1)])) _
          refine XS.iadd X0.here hx rfl (hb hby d2_252) rfl ?_
          exact k
        obtain ⟨fs, hr, hrun, hended, hW, hsame⟩ := X0.leave (v := some (.int (i1 + (2 : Int32)))) (fun h => by rw [Bd.returns] at h; cases h)
        refine ⟨_, _, pre74 _ ?_, hrun, hended, _, _, rfl, ?_, ⟨_, rfl⟩, hW, hsame.mono (by decide) (by decide)⟩
        · show Steps p.tables e below (s₁.setTop (mkF m 253 #[.val (.int i1), .val (.int i2), .val (.int i3), .val (.int i4), .val (.int i5), .val (.int i6), .val (.int (own_j2_4_0 i3)), .val (.int (own_j2_4_1 i3)), .val (.int (own_j2_131_0 i1 i2 i3 i4)), (own_j2_131_1 i3 i4)] [(.int (i1 + (2 : Int32)))])) _
          exact retI X0 hx Bd.returns (hb hby d2_253) hr
        · show Q2 Z i1 i2 i3 i4 i5 i6 h0 n0 _ s₁.heap _
          rw [e0]
          exact ⟨congrArg (fun z => some (Value.int z)) (show (own_r2 i1 i2 i3 i4 i5 i6) = (i1 + (2 : Int32)) from ((if_neg hc96_26).trans ((if_neg hc235_70).trans (if_pos hc247_73)))).symm, N0, rfl⟩
      · have pre75 : ∀ t, Steps p.tables e below (s₁.setTop (mkF m 258 #[.val (.int i1), .val (.int i2), .val (.int i3), .val (.int i4), .val (.int i5), .val (.int i6), .val (.int (own_j2_4_0 i3)), .val (.int (own_j2_4_1 i3)), .val (.int (own_j2_131_0 i1 i2 i3 i4)), (own_j2_131_1 i3 i4)] [(.int i2), (.int (i1 + (2 : Int32)))])) t → Steps p.tables e below (s₁.setTop (entryFrame m #[(.int i1), (.int i2), (.int i3), (.int i4), (.int i5), (.int i6)] 10)) t := by
          intro t k
          refine pre72 _ ?_
          show Steps p.tables e below (s₁.setTop (mkF m 247 #[.val (.int i1), .val (.int i2), .val (.int i3), .val (.int i4), .val (.int i5), .val (.int i6), .val (.int (own_j2_4_0 i3)), .val (.int (own_j2_4_1 i3)), .val (.int (own_j2_131_0 i1 i2 i3 i4)), (own_j2_131_1 i3 i4)] [(.int (2 : Int32)), (.int (own_j2_4_0 i3))])) _
          refine XS.icmpYes X0.here hx rfl (pc0 := 247) (pc' := 254) rfl (hb hby d2_247) rfl (feq hc247_73).2 (by decide) (by decide) ?_
          show Steps p.tables e below (s₁.setTop (mkF m 254 #[.val (.int i1), .val (.int i2), .val (.int i3), .val (.int i4), .val (.int i5), .val (.int i6), .val (.int (own_j2_4_0 i3)), .val (.int (own_j2_4_1 i3)), .val (.int (own_j2_131_0 i1 i2 i3 i4)), (own_j2_131_1 i3 i4)] [])) _
          refine XS.iloadN X0.here hx rfl (hb hby d2_254) rfl ?_
          show Steps p.tables e below (s₁.setTop (mkF m 255 #[.val (.int i1), .val (.int i2), .val (.int i3), .val (.int i4), .val (.int i5), .val (.int i6), .val (.int (own_j2_4_0 i3)), .val (.int (own_j2_4_1 i3)), .val (.int (own_j2_131_0 i1 i2 i3 i4)), (own_j2_131_1 i3 i4)] [(.int i1)])) _
          refine XS.iconst X0.here hx rfl (hb hby d2_255) ?_
          show Steps p.tables e below (s₁.setTop (mkF m 256 #[.val (.int i1), .val (.int i2), .val (.int i3), .val (.int i4), .val (.int i5), .val (.int i6), .val (.int (own_j2_4_0 i3)), .val (.int (own_j2_4_1 i3)), .val (.int (own_j2_131_0 i1 i2 i3 i4)), (own_j2_131_1 i3 i4)] [(.int (2 : Int32)), (.int i1)])) _
          refine XS.iadd X0.here hx rfl (hb hby d2_256) rfl ?_
          show Steps p.tables e below (s₁.setTop (mkF m 257 #[.val (.int i1), .val (.int i2), .val (.int i3), .val (.int i4), .val (.int i5), .val (.int i6), .val (.int (own_j2_4_0 i3)), .val (.int (own_j2_4_1 i3)), .val (.int (own_j2_131_0 i1 i2 i3 i4)), (own_j2_131_1 i3 i4)] [(.int (i1 + (2 : Int32)))])) _
          refine XS.iloadN X0.here hx rfl (hb hby d2_257) rfl ?_
          exact k
        by_cases hc258_76 : (i1 + (2 : Int32)) < i2
        · have pre77 : ∀ t, Steps p.tables e below (s₁.setTop (mkF m 270 #[.val (.int i1), .val (.int i2), .val (.int i3), .val (.int i4), .val (.int i5), .val (.int i6), .val (.int (own_j2_4_0 i3)), .val (.int (own_j2_4_1 i3)), .val (.int (own_j2_131_0 i1 i2 i3 i4)), (own_j2_131_1 i3 i4)] [(.int (128 : Int32)), (.int (i5 &&& (192 : Int32)))])) t → Steps p.tables e below (s₁.setTop (entryFrame m #[(.int i1), (.int i2), (.int i3), (.int i4), (.int i5), (.int i6)] 10)) t := by
            intro t k
            refine pre75 _ ?_
            show Steps p.tables e below (s₁.setTop (mkF m 258 #[.val (.int i1), .val (.int i2), .val (.int i3), .val (.int i4), .val (.int i5), .val (.int i6), .val (.int (own_j2_4_0 i3)), .val (.int (own_j2_4_1 i3)), .val (.int (own_j2_131_0 i1 i2 i3 i4)), (own_j2_131_1 i3 i4)] [(.int i2), (.int (i1 + (2 : Int32)))])) _
            refine XS.icmpNo X0.here hx rfl (hb hby d2_258) rfl (tlt hc258_76).2.1 ?_
            show Steps p.tables e below (s₁.setTop (mkF m 261 #[.val (.int i1), .val (.int i2), .val (.int i3), .val (.int i4), .val (.int i5), .val (.int i6), .val (.int (own_j2_4_0 i3)), .val (.int (own_j2_4_1 i3)), .val (.int (own_j2_131_0 i1 i2 i3 i4)), (own_j2_131_1 i3 i4)] [])) _
            refine XS.iload X0.here hx rfl (hb hby d2_261) rfl ?_
            show Steps p.tables e below (s₁.setTop (mkF m 263 #[.val (.int i1), .val (.int i2), .val (.int i3), .val (.int i4), .val (.int i5), .val (.int i6), .val (.int (own_j2_4_0 i3)), .val (.int (own_j2_4_1 i3)), .val (.int (own_j2_131_0 i1 i2 i3 i4)), (own_j2_131_1 i3 i4)] [(.int i5)])) _
            refine XS.sipush X0.here hx rfl (hb hby d2_263) ?_
            show Steps p.tables e below (s₁.setTop (mkF m 266 #[.val (.int i1), .val (.int i2), .val (.int i3), .val (.int i4), .val (.int i5), .val (.int i6), .val (.int (own_j2_4_0 i3)), .val (.int (own_j2_4_1 i3)), .val (.int (own_j2_131_0 i1 i2 i3 i4)), (own_j2_131_1 i3 i4)] [(.int (192 : Int32)), (.int i5)])) _
            refine XS.iand X0.here hx rfl (hb hby d2_266) rfl ?_
            show Steps p.tables e below (s₁.setTop (mkF m 267 #[.val (.int i1), .val (.int i2), .val (.int i3), .val (.int i4), .val (.int i5), .val (.int i6), .val (.int (own_j2_4_0 i3)), .val (.int (own_j2_4_1 i3)), .val (.int (own_j2_131_0 i1 i2 i3 i4)), (own_j2_131_1 i3 i4)] [(.int (i5 &&& (192 : Int32)))])) _
            refine XS.sipush X0.here hx rfl (hb hby d2_267) ?_
            exact k
          by_cases hc270_78 : (i5 &&& (192 : Int32)) = (128 : Int32)
          · have pre79 : ∀ t, Steps p.tables e below (s₁.setTop (mkF m 282 #[.val (.int i1), .val (.int i2), .val (.int i3), .val (.int i4), .val (.int i5), .val (.int i6), .val (.int (own_j2_4_0 i3)), .val (.int (own_j2_4_1 i3)), .val (.int (own_j2_131_0 i1 i2 i3 i4)), (own_j2_131_1 i3 i4)] [(.int (3 : Int32)), (.int (own_j2_4_0 i3))])) t → Steps p.tables e below (s₁.setTop (entryFrame m #[(.int i1), (.int i2), (.int i3), (.int i4), (.int i5), (.int i6)] 10)) t := by
              intro t k
              refine pre77 _ ?_
              show Steps p.tables e below (s₁.setTop (mkF m 270 #[.val (.int i1), .val (.int i2), .val (.int i3), .val (.int i4), .val (.int i5), .val (.int i6), .val (.int (own_j2_4_0 i3)), .val (.int (own_j2_4_1 i3)), .val (.int (own_j2_131_0 i1 i2 i3 i4)), (own_j2_131_1 i3 i4)] [(.int (128 : Int32)), (.int (i5 &&& (192 : Int32)))])) _
              refine XS.icmpYes X0.here hx rfl (pc0 := 270) (pc' := 279) rfl (hb hby d2_270) rfl (teq hc270_78).1 (by decide) (by decide) ?_
              show Steps p.tables e below (s₁.setTop (mkF m 279 #[.val (.int i1), .val (.int i2), .val (.int i3), .val (.int i4), .val (.int i5), .val (.int i6), .val (.int (own_j2_4_0 i3)), .val (.int (own_j2_4_1 i3)), .val (.int (own_j2_131_0 i1 i2 i3 i4)), (own_j2_131_1 i3 i4)] [])) _
              refine XS.iload X0.here hx rfl (hb hby d2_279) rfl ?_
              show Steps p.tables e below (s₁.setTop (mkF m 281 #[.val (.int i1), .val (.int i2), .val (.int i3), .val (.int i4), .val (.int i5), .val (.int i6), .val (.int (own_j2_4_0 i3)), .val (.int (own_j2_4_1 i3)), .val (.int (own_j2_131_0 i1 i2 i3 i4)), (own_j2_131_1 i3 i4)] [(.int (own_j2_4_0 i3))])) _
              refine XS.iconst X0.here hx rfl (hb hby d2_281) ?_
              exact k
            by_cases hc282_80 : (own_j2_4_0 i3) = (3 : Int32)
            · have pre81 : ∀ t, Steps p.tables e below (s₁.setTop (mkF m 288 #[.val (.int i1), .val (.int i2), .val (.int i3), .val (.int i4), .val (.int i5), .val (.int i6), .val (.int (own_j2_4_0 i3)), .val (.int (own_j2_4_1 i3)), .val (.int (own_j2_131_0 i1 i2 i3 i4)), (own_j2_131_1 i3 i4)] [(.int (i1 + (3 : Int32)))])) t → Steps p.tables e below (s₁.setTop (entryFrame m #[(.int i1), (.int i2), (.int i3), (.int i4), (.int i5), (.int i6)] 10)) t := by
                intro t k
                refine pre79 _ ?_
                show Steps p.tables e below (s₁.setTop (mkF m 282 #[.val (.int i1), .val (.int i2), .val (.int i3), .val (.int i4), .val (.int i5), .val (.int i6), .val (.int (own_j2_4_0 i3)), .val (.int (own_j2_4_1 i3)), .val (.int (own_j2_131_0 i1 i2 i3 i4)), (own_j2_131_1 i3 i4)] [(.int (3 : Int32)), (.int (own_j2_4_0 i3))])) _
                refine XS.icmpNo X0.here hx rfl (hb hby d2_282) rfl (teq hc282_80).2 ?_
                show Steps p.tables e below (s₁.setTop (mkF m 285 #[.val (.int i1), .val (.int i2), .val (.int i3), .val (.int i4), .val (.int i5), .val (.int i6), .val (.int (own_j2_4_0 i3)), .val (.int (own_j2_4_1 i3)), .val (.int (own_j2_131_0 i1 i2 i3 i4)), (own_j2_131_1 i3 i4)] [])) _
                refine XS.iloadN X0.here hx rfl (hb hby d2_285) rfl ?_
                show Steps p.tables e below (s₁.setTop (mkF m 286 #[.val (.int i1), .val (.int i2), .val (.int i3), .val (.int i4), .val (.int i5), .val (.int i6), .val (.int (own_j2_4_0 i3)), .val (.int (own_j2_4_1 i3)), .val (.int (own_j2_131_0 i1 i2 i3 i4)), (own_j2_131_1 i3 i4)] [(.int i1)])) _
                refine XS.iconst X0.here hx rfl (hb hby d2_286) ?_
                show Steps p.tables e below (s₁.setTop (mkF m 287 #[.val (.int i1), .val (.int i2), .val (.int i3), .val (.int i4), .val (.int i5), .val (.int i6), .val (.int (own_j2_4_0 i3)), .val (.int (own_j2_4_1 i3)), .val (.int (own_j2_131_0 i1 i2 i3 i4)), (own_j2_131_1 i3 i4)] [(.int (3 : Int32)), (.int i1)])) _
                refine XS.iadd X0.here hx rfl (hb hby d2_287) rfl ?_
                exact k
              obtain ⟨fs, hr, hrun, hended, hW, hsame⟩ := X0.leave (v := some (.int (i1 + (3 : Int32)))) (fun h => by rw [Bd.returns] at h; cases h)
              refine ⟨_, _, pre81 _ ?_, hrun, hended, _, _, rfl, ?_, ⟨_, rfl⟩, hW, hsame.mono (by decide) (by decide)⟩
              · show Steps p.tables e below (s₁.setTop (mkF m 288 #[.val (.int i1), .val (.int i2), .val (.int i3), .val (.int i4), .val (.int i5), .val (.int i6), .val (.int (own_j2_4_0 i3)), .val (.int (own_j2_4_1 i3)), .val (.int (own_j2_131_0 i1 i2 i3 i4)), (own_j2_131_1 i3 i4)] [(.int (i1 + (3 : Int32)))])) _
                exact retI X0 hx Bd.returns (hb hby d2_288) hr
              · show Q2 Z i1 i2 i3 i4 i5 i6 h0 n0 _ s₁.heap _
                rw [e0]
                exact ⟨congrArg (fun z => some (Value.int z)) (show (own_r2 i1 i2 i3 i4 i5 i6) = (i1 + (3 : Int32)) from ((if_neg hc96_26).trans ((if_neg hc235_70).trans ((if_neg hc247_73).trans ((if_pos hc258_76).trans ((if_pos hc270_78).trans (if_pos hc282_80))))))).symm, N0, rfl⟩
            · have pre82 : ∀ t, Steps p.tables e below (s₁.setTop (mkF m 293 #[.val (.int i1), .val (.int i2), .val (.int i3), .val (.int i4), .val (.int i5), .val (.int i6), .val (.int (own_j2_4_0 i3)), .val (.int (own_j2_4_1 i3)), .val (.int (own_j2_131_0 i1 i2 i3 i4)), (own_j2_131_1 i3 i4)] [(.int i2), (.int (i1 + (3 : Int32)))])) t → Steps p.tables e below (s₁.setTop (entryFrame m #[(.int i1), (.int i2), (.int i3), (.int i4), (.int i5), (.int i6)] 10)) t := by
                intro t k
                refine pre79 _ ?_
                show Steps p.tables e below (s₁.setTop (mkF m 282 #[.val (.int i1), .val (.int i2), .val (.int i3), .val (.int i4), .val (.int i5), .val (.int i6), .val (.int (own_j2_4_0 i3)), .val (.int (own_j2_4_1 i3)), .val (.int (own_j2_131_0 i1 i2 i3 i4)), (own_j2_131_1 i3 i4)] [(.int (3 : Int32)), (.int (own_j2_4_0 i3))])) _
                refine XS.icmpYes X0.here hx rfl (pc0 := 282) (pc' := 289) rfl (hb hby d2_282) rfl (feq hc282_80).2 (by decide) (by decide) ?_
                show Steps p.tables e below (s₁.setTop (mkF m 289 #[.val (.int i1), .val (.int i2), .val (.int i3), .val (.int i4), .val (.int i5), .val (.int i6), .val (.int (own_j2_4_0 i3)), .val (.int (own_j2_4_1 i3)), .val (.int (own_j2_131_0 i1 i2 i3 i4)), (own_j2_131_1 i3 i4)] [])) _
                refine XS.iloadN X0.here hx rfl (hb hby d2_289) rfl ?_
                show Steps p.tables e below (s₁.setTop (mkF m 290 #[.val (.int i1), .val (.int i2), .val (.int i3), .val (.int i4), .val (.int i5), .val (.int i6), .val (.int (own_j2_4_0 i3)), .val (.int (own_j2_4_1 i3)), .val (.int (own_j2_131_0 i1 i2 i3 i4)), (own_j2_131_1 i3 i4)] [(.int i1)])) _
                refine XS.iconst X0.here hx rfl (hb hby d2_290) ?_
                show Steps p.tables e below (s₁.setTop (mkF m 291 #[.val (.int i1), .val (.int i2), .val (.int i3), .val (.int i4), .val (.int i5), .val (.int i6), .val (.int (own_j2_4_0 i3)), .val (.int (own_j2_4_1 i3)), .val (.int (own_j2_131_0 i1 i2 i3 i4)), (own_j2_131_1 i3 i4)] [(.int (3 : Int32)), (.int i1)])) _
                refine XS.iadd X0.here hx rfl (hb hby d2_291) rfl ?_
                show Steps p.tables e below (s₁.setTop (mkF m 292 #[.val (.int i1), .val (.int i2), .val (.int i3), .val (.int i4), .val (.int i5), .val (.int i6), .val (.int (own_j2_4_0 i3)), .val (.int (own_j2_4_1 i3)), .val (.int (own_j2_131_0 i1 i2 i3 i4)), (own_j2_131_1 i3 i4)] [(.int (i1 + (3 : Int32)))])) _
                refine XS.iloadN X0.here hx rfl (hb hby d2_292) rfl ?_
                exact k
              by_cases hc293_83 : (i1 + (3 : Int32)) < i2
              · have pre84 : ∀ t, Steps p.tables e below (s₁.setTop (mkF m 305 #[.val (.int i1), .val (.int i2), .val (.int i3), .val (.int i4), .val (.int i5), .val (.int i6), .val (.int (own_j2_4_0 i3)), .val (.int (own_j2_4_1 i3)), .val (.int (own_j2_131_0 i1 i2 i3 i4)), (own_j2_131_1 i3 i4)] [(.int (128 : Int32)), (.int (i6 &&& (192 : Int32)))])) t → Steps p.tables e below (s₁.setTop (entryFrame m #[(.int i1), (.int i2), (.int i3), (.int i4), (.int i5), (.int i6)] 10)) t := by
                  intro t k
                  refine pre82 _ ?_
                  show Steps p.tables e below (s₁.setTop (mkF m 293 #[.val (.int i1), .val (.int i2), .val (.int i3), .val (.int i4), .val (.int i5), .val (.int i6), .val (.int (own_j2_4_0 i3)), .val (.int (own_j2_4_1 i3)), .val (.int (own_j2_131_0 i1 i2 i3 i4)), (own_j2_131_1 i3 i4)] [(.int i2), (.int (i1 + (3 : Int32)))])) _
                  refine XS.icmpNo X0.here hx rfl (hb hby d2_293) rfl (tlt hc293_83).2.1 ?_
                  show Steps p.tables e below (s₁.setTop (mkF m 296 #[.val (.int i1), .val (.int i2), .val (.int i3), .val (.int i4), .val (.int i5), .val (.int i6), .val (.int (own_j2_4_0 i3)), .val (.int (own_j2_4_1 i3)), .val (.int (own_j2_131_0 i1 i2 i3 i4)), (own_j2_131_1 i3 i4)] [])) _
                  refine XS.iload X0.here hx rfl (hb hby d2_296) rfl ?_
                  show Steps p.tables e below (s₁.setTop (mkF m 298 #[.val (.int i1), .val (.int i2), .val (.int i3), .val (.int i4), .val (.int i5), .val (.int i6), .val (.int (own_j2_4_0 i3)), .val (.int (own_j2_4_1 i3)), .val (.int (own_j2_131_0 i1 i2 i3 i4)), (own_j2_131_1 i3 i4)] [(.int i6)])) _
                  refine XS.sipush X0.here hx rfl (hb hby d2_298) ?_
                  show Steps p.tables e below (s₁.setTop (mkF m 301 #[.val (.int i1), .val (.int i2), .val (.int i3), .val (.int i4), .val (.int i5), .val (.int i6), .val (.int (own_j2_4_0 i3)), .val (.int (own_j2_4_1 i3)), .val (.int (own_j2_131_0 i1 i2 i3 i4)), (own_j2_131_1 i3 i4)] [(.int (192 : Int32)), (.int i6)])) _
                  refine XS.iand X0.here hx rfl (hb hby d2_301) rfl ?_
                  show Steps p.tables e below (s₁.setTop (mkF m 302 #[.val (.int i1), .val (.int i2), .val (.int i3), .val (.int i4), .val (.int i5), .val (.int i6), .val (.int (own_j2_4_0 i3)), .val (.int (own_j2_4_1 i3)), .val (.int (own_j2_131_0 i1 i2 i3 i4)), (own_j2_131_1 i3 i4)] [(.int (i6 &&& (192 : Int32)))])) _
                  refine XS.sipush X0.here hx rfl (hb hby d2_302) ?_
                  exact k
                by_cases hc305_85 : (i6 &&& (192 : Int32)) = (128 : Int32)
                · have pre86 : ∀ t, Steps p.tables e below (s₁.setTop (mkF m 317 #[.val (.int i1), .val (.int i2), .val (.int i3), .val (.int i4), .val (.int i5), .val (.int i6), .val (.int (own_j2_4_0 i3)), .val (.int (own_j2_4_1 i3)), .val (.int (own_j2_131_0 i1 i2 i3 i4)), (own_j2_131_1 i3 i4)] [(.int (i1 + (4 : Int32)))])) t → Steps p.tables e below (s₁.setTop (entryFrame m #[(.int i1), (.int i2), (.int i3), (.int i4), (.int i5), (.int i6)] 10)) t := by
                    intro t k
                    refine pre84 _ ?_
                    show Steps p.tables e below (s₁.setTop (mkF m 305 #[.val (.int i1), .val (.int i2), .val (.int i3), .val (.int i4), .val (.int i5), .val (.int i6), .val (.int (own_j2_4_0 i3)), .val (.int (own_j2_4_1 i3)), .val (.int (own_j2_131_0 i1 i2 i3 i4)), (own_j2_131_1 i3 i4)] [(.int (128 : Int32)), (.int (i6 &&& (192 : Int32)))])) _
                    refine XS.icmpYes X0.here hx rfl (pc0 := 305) (pc' := 314) rfl (hb hby d2_305) rfl (teq hc305_85).1 (by decide) (by decide) ?_
                    show Steps p.tables e below (s₁.setTop (mkF m 314 #[.val (.int i1), .val (.int i2), .val (.int i3), .val (.int i4), .val (.int i5), .val (.int i6), .val (.int (own_j2_4_0 i3)), .val (.int (own_j2_4_1 i3)), .val (.int (own_j2_131_0 i1 i2 i3 i4)), (own_j2_131_1 i3 i4)] [])) _
                    refine XS.iloadN X0.here hx rfl (hb hby d2_314) rfl ?_
                    show Steps p.tables e below (s₁.setTop (mkF m 315 #[.val (.int i1), .val (.int i2), .val (.int i3), .val (.int i4), .val (.int i5), .val (.int i6), .val (.int (own_j2_4_0 i3)), .val (.int (own_j2_4_1 i3)), .val (.int (own_j2_131_0 i1 i2 i3 i4)), (own_j2_131_1 i3 i4)] [(.int i1)])) _
                    refine XS.iconst X0.here hx rfl (hb hby d2_315) ?_
                    show Steps p.tables e below (s₁.setTop (mkF m 316 #[.val (.int i1), .val (.int i2), .val (.int i3), .val (.int i4), .val (.int i5), .val (.int i6), .val (.int (own_j2_4_0 i3)), .val (.int (own_j2_4_1 i3)), .val (.int (own_j2_131_0 i1 i2 i3 i4)), (own_j2_131_1 i3 i4)] [(.int (4 : Int32)), (.int i1)])) _
                    refine XS.iadd X0.here hx rfl (hb hby d2_316) rfl ?_
                    exact k
                  obtain ⟨fs, hr, hrun, hended, hW, hsame⟩ := X0.leave (v := some (.int (i1 + (4 : Int32)))) (fun h => by rw [Bd.returns] at h; cases h)
                  refine ⟨_, _, pre86 _ ?_, hrun, hended, _, _, rfl, ?_, ⟨_, rfl⟩, hW, hsame.mono (by decide) (by decide)⟩
                  · show Steps p.tables e below (s₁.setTop (mkF m 317 #[.val (.int i1), .val (.int i2), .val (.int i3), .val (.int i4), .val (.int i5), .val (.int i6), .val (.int (own_j2_4_0 i3)), .val (.int (own_j2_4_1 i3)), .val (.int (own_j2_131_0 i1 i2 i3 i4)), (own_j2_131_1 i3 i4)] [(.int (i1 + (4 : Int32)))])) _
                    exact retI X0 hx Bd.returns (hb hby d2_317) hr
                  · show Q2 Z i1 i2 i3 i4 i5 i6 h0 n0 _ s₁.heap _
                    rw [e0]
                    exact ⟨congrArg (fun z => some (Value.int z)) (show (own_r2 i1 i2 i3 i4 i5 i6) = (i1 + (4 : Int32)) from ((if_neg hc96_26).trans ((if_neg hc235_70).trans ((if_neg hc247_73).trans ((if_pos hc258_76).trans ((if_pos hc270_78).trans ((if_neg hc282_80).trans ((if_pos hc293_83).trans (if_pos hc305_85))))))))).symm, N0, rfl⟩
                · have pre87 : ∀ t, Steps p.tables e below (s₁.setTop (mkF m 313 #[.val (.int i1), .val (.int i2), .val (.int i3), .val (.int i4), .val (.int i5), .val (.int i6), .val (.int (own_j2_4_0 i3)), .val (.int (own_j2_4_1 i3)), .val (.int (own_j2_131_0 i1 i2 i3 i4)), (own_j2_131_1 i3 i4)] [(.int ((i1 + (3 : Int32)) ^^^ (-1 : Int32)))])) t → Steps p.tables e below (s₁.setTop (entryFrame m #[(.int i1), (.int i2), (.int i3), (.int i4), (.int i5), (.int i6)] 10)) t := by
                    intro t k
                    refine pre84 _ ?_
                    show Steps p.tables e below (s₁.setTop (mkF m 305 #[.val (.int i1), .val (.int i2), .val (.int i3), .val (.int i4), .val (.int i5), .val (.int i6), .val (.int (own_j2_4_0 i3)), .val (.int (own_j2_4_1 i3)), .val (.int (own_j2_131_0 i1 i2 i3 i4)), (own_j2_131_1 i3 i4)] [(.int (128 : Int32)), (.int (i6 &&& (192 : Int32)))])) _
                    refine XS.icmpNo X0.here hx rfl (hb hby d2_305) rfl (feq hc305_85).1 ?_
                    show Steps p.tables e below (s₁.setTop (mkF m 308 #[.val (.int i1), .val (.int i2), .val (.int i3), .val (.int i4), .val (.int i5), .val (.int i6), .val (.int (own_j2_4_0 i3)), .val (.int (own_j2_4_1 i3)), .val (.int (own_j2_131_0 i1 i2 i3 i4)), (own_j2_131_1 i3 i4)] [])) _
                    refine XS.iloadN X0.here hx rfl (hb hby d2_308) rfl ?_
                    show Steps p.tables e below (s₁.setTop (mkF m 309 #[.val (.int i1), .val (.int i2), .val (.int i3), .val (.int i4), .val (.int i5), .val (.int i6), .val (.int (own_j2_4_0 i3)), .val (.int (own_j2_4_1 i3)), .val (.int (own_j2_131_0 i1 i2 i3 i4)), (own_j2_131_1 i3 i4)] [(.int i1)])) _
                    refine XS.iconst X0.here hx rfl (hb hby d2_309) ?_
                    show Steps p.tables e below (s₁.setTop (mkF m 310 #[.val (.int i1), .val (.int i2), .val (.int i3), .val (.int i4), .val (.int i5), .val (.int i6), .val (.int (own_j2_4_0 i3)), .val (.int (own_j2_4_1 i3)), .val (.int (own_j2_131_0 i1 i2 i3 i4)), (own_j2_131_1 i3 i4)] [(.int (3 : Int32)), (.int i1)])) _
                    refine XS.iadd X0.here hx rfl (hb hby d2_310) rfl ?_
                    show Steps p.tables e below (s₁.setTop (mkF m 311 #[.val (.int i1), .val (.int i2), .val (.int i3), .val (.int i4), .val (.int i5), .val (.int i6), .val (.int (own_j2_4_0 i3)), .val (.int (own_j2_4_1 i3)), .val (.int (own_j2_131_0 i1 i2 i3 i4)), (own_j2_131_1 i3 i4)] [(.int (i1 + (3 : Int32)))])) _
                    refine XS.iconst X0.here hx rfl (hb hby d2_311) ?_
                    show Steps p.tables e below (s₁.setTop (mkF m 312 #[.val (.int i1), .val (.int i2), .val (.int i3), .val (.int i4), .val (.int i5), .val (.int i6), .val (.int (own_j2_4_0 i3)), .val (.int (own_j2_4_1 i3)), .val (.int (own_j2_131_0 i1 i2 i3 i4)), (own_j2_131_1 i3 i4)] [(.int (-1 : Int32)), (.int (i1 + (3 : Int32)))])) _
                    refine XS.ixor X0.here hx rfl (hb hby d2_312) rfl ?_
                    exact k
                  obtain ⟨fs, hr, hrun, hended, hW, hsame⟩ := X0.leave (v := some (.int ((i1 + (3 : Int32)) ^^^ (-1 : Int32)))) (fun h => by rw [Bd.returns] at h; cases h)
                  refine ⟨_, _, pre87 _ ?_, hrun, hended, _, _, rfl, ?_, ⟨_, rfl⟩, hW, hsame.mono (by decide) (by decide)⟩
                  · show Steps p.tables e below (s₁.setTop (mkF m 313 #[.val (.int i1), .val (.int i2), .val (.int i3), .val (.int i4), .val (.int i5), .val (.int i6), .val (.int (own_j2_4_0 i3)), .val (.int (own_j2_4_1 i3)), .val (.int (own_j2_131_0 i1 i2 i3 i4)), (own_j2_131_1 i3 i4)] [(.int ((i1 + (3 : Int32)) ^^^ (-1 : Int32)))])) _
                    exact retI X0 hx Bd.returns (hb hby d2_313) hr
                  · show Q2 Z i1 i2 i3 i4 i5 i6 h0 n0 _ s₁.heap _
                    rw [e0]
                    exact ⟨congrArg (fun z => some (Value.int z)) (show (own_r2 i1 i2 i3 i4 i5 i6) = ((i1 + (3 : Int32)) ^^^ (-1 : Int32)) from ((if_neg hc96_26).trans ((if_neg hc235_70).trans ((if_neg hc247_73).trans ((if_pos hc258_76).trans ((if_pos hc270_78).trans ((if_neg hc282_80).trans ((if_pos hc293_83).trans (if_neg hc305_85))))))))).symm, N0, rfl⟩
              · have pre88 : ∀ t, Steps p.tables e below (s₁.setTop (mkF m 313 #[.val (.int i1), .val (.int i2), .val (.int i3), .val (.int i4), .val (.int i5), .val (.int i6), .val (.int (own_j2_4_0 i3)), .val (.int (own_j2_4_1 i3)), .val (.int (own_j2_131_0 i1 i2 i3 i4)), (own_j2_131_1 i3 i4)] [(.int ((i1 + (3 : Int32)) ^^^ (-1 : Int32)))])) t → Steps p.tables e below (s₁.setTop (entryFrame m #[(.int i1), (.int i2), (.int i3), (.int i4), (.int i5), (.int i6)] 10)) t := by
                  intro t k
                  refine pre82 _ ?_
                  show Steps p.tables e below (s₁.setTop (mkF m 293 #[.val (.int i1), .val (.int i2), .val (.int i3), .val (.int i4), .val (.int i5), .val (.int i6), .val (.int (own_j2_4_0 i3)), .val (.int (own_j2_4_1 i3)), .val (.int (own_j2_131_0 i1 i2 i3 i4)), (own_j2_131_1 i3 i4)] [(.int i2), (.int (i1 + (3 : Int32)))])) _
                  refine XS.icmpYes X0.here hx rfl (pc0 := 293) (pc' := 308) rfl (hb hby d2_293) rfl (flt hc293_83).2.1 (by decide) (by decide) ?_
                  show Steps p.tables e below (s₁.setTop (mkF m 308 #[.val (.int i1), .val (.int i2), .val (.int i3), .val (.int i4), .val (.int i5), .val (.int i6), .val (.int (own_j2_4_0 i3)), .val (.int (own_j2_4_1 i3)), .val (.int (own_j2_131_0 i1 i2 i3 i4)), (own_j2_131_1 i3 i4)] [])) _
                  refine XS.iloadN X0.here hx rfl (hb hby d2_308) rfl ?_
                  show Steps p.tables e below (s₁.setTop (mkF m 309 #[.val (.int i1), .val (.int i2), .val (.int i3), .val (.int i4), .val (.int i5), .val (.int i6), .val (.int (own_j2_4_0 i3)), .val (.int (own_j2_4_1 i3)), .val (.int (own_j2_131_0 i1 i2 i3 i4)), (own_j2_131_1 i3 i4)] [(.int i1)])) _
                  refine XS.iconst X0.here hx rfl (hb hby d2_309) ?_
                  show Steps p.tables e below (s₁.setTop (mkF m 310 #[.val (.int i1), .val (.int i2), .val (.int i3), .val (.int i4), .val (.int i5), .val (.int i6), .val (.int (own_j2_4_0 i3)), .val (.int (own_j2_4_1 i3)), .val (.int (own_j2_131_0 i1 i2 i3 i4)), (own_j2_131_1 i3 i4)] [(.int (3 : Int32)), (.int i1)])) _
                  refine XS.iadd X0.here hx rfl (hb hby d2_310) rfl ?_
                  show Steps p.tables e below (s₁.setTop (mkF m 311 #[.val (.int i1), .val (.int i2), .val (.int i3), .val (.int i4), .val (.int i5), .val (.int i6), .val (.int (own_j2_4_0 i3)), .val (.int (own_j2_4_1 i3)), .val (.int (own_j2_131_0 i1 i2 i3 i4)), (own_j2_131_1 i3 i4)] [(.int (i1 + (3 : Int32)))])) _
                  refine XS.iconst X0.here hx rfl (hb hby d2_311) ?_
                  show Steps p.tables e below (s₁.setTop (mkF m 312 #[.val (.int i1), .val (.int i2), .val (.int i3), .val (.int i4), .val (.int i5), .val (.int i6), .val (.int (own_j2_4_0 i3)), .val (.int (own_j2_4_1 i3)), .val (.int (own_j2_131_0 i1 i2 i3 i4)), (own_j2_131_1 i3 i4)] [(.int (-1 : Int32)), (.int (i1 + (3 : Int32)))])) _
                  refine XS.ixor X0.here hx rfl (hb hby d2_312) rfl ?_
                  exact k
                obtain ⟨fs, hr, hrun, hended, hW, hsame⟩ := X0.leave (v := some (.int ((i1 + (3 : Int32)) ^^^ (-1 : Int32)))) (fun h => by rw [Bd.returns] at h; cases h)
                refine ⟨_, _, pre88 _ ?_, hrun, hended, _, _, rfl, ?_, ⟨_, rfl⟩, hW, hsame.mono (by decide) (by decide)⟩
                · show Steps p.tables e below (s₁.setTop (mkF m 313 #[.val (.int i1), .val (.int i2), .val (.int i3), .val (.int i4), .val (.int i5), .val (.int i6), .val (.int (own_j2_4_0 i3)), .val (.int (own_j2_4_1 i3)), .val (.int (own_j2_131_0 i1 i2 i3 i4)), (own_j2_131_1 i3 i4)] [(.int ((i1 + (3 : Int32)) ^^^ (-1 : Int32)))])) _
                  exact retI X0 hx Bd.returns (hb hby d2_313) hr
                · show Q2 Z i1 i2 i3 i4 i5 i6 h0 n0 _ s₁.heap _
                  rw [e0]
                  exact ⟨congrArg (fun z => some (Value.int z)) (show (own_r2 i1 i2 i3 i4 i5 i6) = ((i1 + (3 : Int32)) ^^^ (-1 : Int32)) from ((if_neg hc96_26).trans ((if_neg hc235_70).trans ((if_neg hc247_73).trans ((if_pos hc258_76).trans ((if_pos hc270_78).trans ((if_neg hc282_80).trans (if_neg hc293_83)))))))).symm, N0, rfl⟩
          · have pre89 : ∀ t, Steps p.tables e below (s₁.setTop (mkF m 278 #[.val (.int i1), .val (.int i2), .val (.int i3), .val (.int i4), .val (.int i5), .val (.int i6), .val (.int (own_j2_4_0 i3)), .val (.int (own_j2_4_1 i3)), .val (.int (own_j2_131_0 i1 i2 i3 i4)), (own_j2_131_1 i3 i4)] [(.int ((i1 + (2 : Int32)) ^^^ (-1 : Int32)))])) t → Steps p.tables e below (s₁.setTop (entryFrame m #[(.int i1), (.int i2), (.int i3), (.int i4), (.int i5), (.int i6)] 10)) t := by
              intro t k
              refine pre77 _ ?_
              show Steps p.tables e below (s₁.setTop (mkF m 270 #[.val (.int i1), .val (.int i2), .val (.int i3), .val (.int i4), .val (.int i5), .val (.int i6), .val (.int (own_j2_4_0 i3)), .val (.int (own_j2_4_1 i3)), .val (.int (own_j2_131_0 i1 i2 i3 i4)), (own_j2_131_1 i3 i4)] [(.int (128 : Int32)), (.int (i5 &&& (192 : Int32)))])) _
              refine XS.icmpNo X0.here hx rfl (hb hby d2_270) rfl (feq hc270_78).1 ?_
              show Steps p.tables e below (s₁.setTop (mkF m 273 #[.val (.int i1), .val (.int i2), .val (.int i3), .val (.int i4), .val (.int i5), .val (.int i6), .val (.int (own_j2_4_0 i3)), .val (.int (own_j2_4_1 i3)), .val (.int (own_j2_131_0 i1 i2 i3 i4)), (own_j2_131_1 i3 i4)] [])) _
              refine XS.iloadN X0.here hx rfl (hb hby d2_273) rfl ?_
              show Steps p.tables e below (s₁.setTop (mkF m 274 #[.val (.int i1), .val (.int i2), .val (.int i3), .val (.int i4), .val (.int i5), .val (.int i6), .val (.int (own_j2_4_0 i3)), .val (.int (own_j2_4_1 i3)), .val (.int (own_j2_131_0 i1 i2 i3 i4)), (own_j2_131_1 i3 i4)] [(.int i1)])) _
              refine XS.iconst X0.here hx rfl (hb hby d2_274) ?_
              show Steps p.tables e below (s₁.setTop (mkF m 275 #[.val (.int i1), .val (.int i2), .val (.int i3), .val (.int i4), .val (.int i5), .val (.int i6), .val (.int (own_j2_4_0 i3)), .val (.int (own_j2_4_1 i3)), .val (.int (own_j2_131_0 i1 i2 i3 i4)), (own_j2_131_1 i3 i4)] [(.int (2 : Int32)), (.int i1)])) _
              refine XS.iadd X0.here hx rfl (hb hby d2_275) rfl ?_
              show Steps p.tables e below (s₁.setTop (mkF m 276 #[.val (.int i1), .val (.int i2), .val (.int i3), .val (.int i4), .val (.int i5), .val (.int i6), .val (.int (own_j2_4_0 i3)), .val (.int (own_j2_4_1 i3)), .val (.int (own_j2_131_0 i1 i2 i3 i4)), (own_j2_131_1 i3 i4)] [(.int (i1 + (2 : Int32)))])) _
              refine XS.iconst X0.here hx rfl (hb hby d2_276) ?_
              show Steps p.tables e below (s₁.setTop (mkF m 277 #[.val (.int i1), .val (.int i2), .val (.int i3), .val (.int i4), .val (.int i5), .val (.int i6), .val (.int (own_j2_4_0 i3)), .val (.int (own_j2_4_1 i3)), .val (.int (own_j2_131_0 i1 i2 i3 i4)), (own_j2_131_1 i3 i4)] [(.int (-1 : Int32)), (.int (i1 + (2 : Int32)))])) _
              refine XS.ixor X0.here hx rfl (hb hby d2_277) rfl ?_
              exact k
            obtain ⟨fs, hr, hrun, hended, hW, hsame⟩ := X0.leave (v := some (.int ((i1 + (2 : Int32)) ^^^ (-1 : Int32)))) (fun h => by rw [Bd.returns] at h; cases h)
            refine ⟨_, _, pre89 _ ?_, hrun, hended, _, _, rfl, ?_, ⟨_, rfl⟩, hW, hsame.mono (by decide) (by decide)⟩
            · show Steps p.tables e below (s₁.setTop (mkF m 278 #[.val (.int i1), .val (.int i2), .val (.int i3), .val (.int i4), .val (.int i5), .val (.int i6), .val (.int (own_j2_4_0 i3)), .val (.int (own_j2_4_1 i3)), .val (.int (own_j2_131_0 i1 i2 i3 i4)), (own_j2_131_1 i3 i4)] [(.int ((i1 + (2 : Int32)) ^^^ (-1 : Int32)))])) _
              exact retI X0 hx Bd.returns (hb hby d2_278) hr
            · show Q2 Z i1 i2 i3 i4 i5 i6 h0 n0 _ s₁.heap _
              rw [e0]
              exact ⟨congrArg (fun z => some (Value.int z)) (show (own_r2 i1 i2 i3 i4 i5 i6) = ((i1 + (2 : Int32)) ^^^ (-1 : Int32)) from ((if_neg hc96_26).trans ((if_neg hc235_70).trans ((if_neg hc247_73).trans ((if_pos hc258_76).trans (if_neg hc270_78)))))).symm, N0, rfl⟩
        · have pre90 : ∀ t, Steps p.tables e below (s₁.setTop (mkF m 278 #[.val (.int i1), .val (.int i2), .val (.int i3), .val (.int i4), .val (.int i5), .val (.int i6), .val (.int (own_j2_4_0 i3)), .val (.int (own_j2_4_1 i3)), .val (.int (own_j2_131_0 i1 i2 i3 i4)), (own_j2_131_1 i3 i4)] [(.int ((i1 + (2 : Int32)) ^^^ (-1 : Int32)))])) t → Steps p.tables e below (s₁.setTop (entryFrame m #[(.int i1), (.int i2), (.int i3), (.int i4), (.int i5), (.int i6)] 10)) t := by
            intro t k
            refine pre75 _ ?_
            show Steps p.tables e below (s₁.setTop (mkF m 258 #[.val (.int i1), .val (.int i2), .val (.int i3), .val (.int i4), .val (.int i5), .val (.int i6), .val (.int (own_j2_4_0 i3)), .val (.int (own_j2_4_1 i3)), .val (.int (own_j2_131_0 i1 i2 i3 i4)), (own_j2_131_1 i3 i4)] [(.int i2), (.int (i1 + (2 : Int32)))])) _
            refine XS.icmpYes X0.here hx rfl (pc0 := 258) (pc' := 273) rfl (hb hby d2_258) rfl (flt hc258_76).2.1 (by decide) (by decide) ?_
            show Steps p.tables e below (s₁.setTop (mkF m 273 #[.val (.int i1), .val (.int i2), .val (.int i3), .val (.int i4), .val (.int i5), .val (.int i6), .val (.int (own_j2_4_0 i3)), .val (.int (own_j2_4_1 i3)), .val (.int (own_j2_131_0 i1 i2 i3 i4)), (own_j2_131_1 i3 i4)] [])) _
            refine XS.iloadN X0.here hx rfl (hb hby d2_273) rfl ?_
            show Steps p.tables e below (s₁.setTop (mkF m 274 #[.val (.int i1), .val (.int i2), .val (.int i3), .val (.int i4), .val (.int i5), .val (.int i6), .val (.int (own_j2_4_0 i3)), .val (.int (own_j2_4_1 i3)), .val (.int (own_j2_131_0 i1 i2 i3 i4)), (own_j2_131_1 i3 i4)] [(.int i1)])) _
            refine XS.iconst X0.here hx rfl (hb hby d2_274) ?_
            show Steps p.tables e below (s₁.setTop (mkF m 275 #[.val (.int i1), .val (.int i2), .val (.int i3), .val (.int i4), .val (.int i5), .val (.int i6), .val (.int (own_j2_4_0 i3)), .val (.int (own_j2_4_1 i3)), .val (.int (own_j2_131_0 i1 i2 i3 i4)), (own_j2_131_1 i3 i4)] [(.int (2 : Int32)), (.int i1)])) _
            refine XS.iadd X0.here hx rfl (hb hby d2_275) rfl ?_
            show Steps p.tables e below (s₁.setTop (mkF m 276 #[.val (.int i1), .val (.int i2), .val (.int i3), .val (.int i4), .val (.int i5), .val (.int i6), .val (.int (own_j2_4_0 i3)), .val (.int (own_j2_4_1 i3)), .val (.int (own_j2_131_0 i1 i2 i3 i4)), (own_j2_131_1 i3 i4)] [(.int (i1 + (2 : Int32)))])) _
            refine XS.iconst X0.here hx rfl (hb hby d2_276) ?_
            show Steps p.tables e below (s₁.setTop (mkF m 277 #[.val (.int i1), .val (.int i2), .val (.int i3), .val (.int i4), .val (.int i5), .val (.int i6), .val (.int (own_j2_4_0 i3)), .val (.int (own_j2_4_1 i3)), .val (.int (own_j2_131_0 i1 i2 i3 i4)), (own_j2_131_1 i3 i4)] [(.int (-1 : Int32)), (.int (i1 + (2 : Int32)))])) _
            refine XS.ixor X0.here hx rfl (hb hby d2_277) rfl ?_
            exact k
          obtain ⟨fs, hr, hrun, hended, hW, hsame⟩ := X0.leave (v := some (.int ((i1 + (2 : Int32)) ^^^ (-1 : Int32)))) (fun h => by rw [Bd.returns] at h; cases h)
          refine ⟨_, _, pre90 _ ?_, hrun, hended, _, _, rfl, ?_, ⟨_, rfl⟩, hW, hsame.mono (by decide) (by decide)⟩
          · show Steps p.tables e below (s₁.setTop (mkF m 278 #[.val (.int i1), .val (.int i2), .val (.int i3), .val (.int i4), .val (.int i5), .val (.int i6), .val (.int (own_j2_4_0 i3)), .val (.int (own_j2_4_1 i3)), .val (.int (own_j2_131_0 i1 i2 i3 i4)), (own_j2_131_1 i3 i4)] [(.int ((i1 + (2 : Int32)) ^^^ (-1 : Int32)))])) _
            exact retI X0 hx Bd.returns (hb hby d2_278) hr
          · show Q2 Z i1 i2 i3 i4 i5 i6 h0 n0 _ s₁.heap _
            rw [e0]
            exact ⟨congrArg (fun z => some (Value.int z)) (show (own_r2 i1 i2 i3 i4 i5 i6) = ((i1 + (2 : Int32)) ^^^ (-1 : Int32)) from ((if_neg hc96_26).trans ((if_neg hc235_70).trans ((if_neg hc247_73).trans (if_neg hc258_76))))).symm, N0, rfl⟩
def own_j3_113_0 (e0_r1 : Int32) : Int32 := (if (e0_r1 &&& (255 : Int32)) = (240 : Int32) then (144 : Int32) else (128 : Int32))
def own_j3_130_0 (e0_r1 : Int32) : Int32 := (if (e0_r1 &&& (255 : Int32)) = (244 : Int32) then (143 : Int32) else (191 : Int32))
def own_j3_167_0 (i3 : Int32) (e1_r1 : Int32) : Int32 := (if (1 : Int32) < i3 then (e1_r1 &&& (255 : Int32)) else (-1 : Int32))
def own_j3_167_0_v1 (i3 : Int32) (e2_r1 : Int32) : Int32 := (if (2 : Int32) < i3 then (e2_r1 &&& (255 : Int32)) else (-1 : Int32))
def own_j3_167_0_v2 (i3 : Int32) (e3_r1 : Int32) : Int32 := (if (3 : Int32) < i3 then (e3_r1 &&& (255 : Int32)) else (-1 : Int32))
def own_j3_59_0 (e0_r1 : Int32) : Int32 := (if (e0_r1 &&& (255 : Int32)) = (224 : Int32) then (160 : Int32) else (128 : Int32))
def own_j3_76_0 (e0_r1 : Int32) : Int32 := (if (e0_r1 &&& (255 : Int32)) = (237 : Int32) then (159 : Int32) else (191 : Int32))
def own_r3 (i3 : Int32) (e0_r1 : Int32) (e1_r1 : Int32) (e2_r1 : Int32) (e3_r1 : Int32) : Int32 := (if (e0_r1 &&& (255 : Int32)) < (194 : Int32) then (-1 : Int32) else (if (223 : Int32) < (e0_r1 &&& (255 : Int32)) then (if (239 : Int32) < (e0_r1 &&& (255 : Int32)) then (if (244 : Int32) < (e0_r1 &&& (255 : Int32)) then (-1 : Int32) else (if (own_j3_167_0 i3 e1_r1) < (own_j3_113_0 e0_r1) then (-2 : Int32) else (if (own_j3_130_0 e0_r1) < (own_j3_167_0 i3 e1_r1) then (-2 : Int32) else (if (own_j3_167_0_v1 i3 e2_r1) < (128 : Int32) then (-3 : Int32) else (if (191 : Int32) < (own_j3_167_0_v1 i3 e2_r1) then (-3 : Int32) else (if (own_j3_167_0_v2 i3 e3_r1) < (128 : Int32) then (-4 : Int32) else (if (191 : Int32) < (own_j3_167_0_v2 i3 e3_r1) then (-4 : Int32) else (4 : Int32)))))))) else (if (own_j3_167_0 i3 e1_r1) < (own_j3_59_0 e0_r1) then (-2 : Int32) else (if (own_j3_76_0 e0_r1) < (own_j3_167_0 i3 e1_r1) then (-2 : Int32) else (if (own_j3_167_0_v1 i3 e2_r1) < (128 : Int32) then (-3 : Int32) else (if (191 : Int32) < (own_j3_167_0_v1 i3 e2_r1) then (-3 : Int32) else (3 : Int32)))))) else (if (own_j3_167_0 i3 e1_r1) < (128 : Int32) then (-2 : Int32) else (if (191 : Int32) < (own_j3_167_0 i3 e1_r1) then (-2 : Int32) else (2 : Int32)))))
def Q3 (Z : State) (r1 : Addr) (i3 : Int32) (e0_r1 : Int32) (e1_r1 : Int32) (e2_r1 : Int32) (e3_r1 : Int32) (e4_r1 : Int32) (e5_r1 : Int32) (k_r1 : ClassId) (h0 : Heap) (n0 : Nat) (v : Option Value) (h : Heap) (L : List Loc) : Prop := v = some (.int (own_r3 i3 e0_r1 e1_r1 e2_r1 e3_r1)) ∧ Fr n0 L ∧ h = h0
theorem ef_3 (m : MethodId) (x0 : Addr) (x2 : Int32) : entryFrame m #[(.ref x0), (.int (0 : Int32)), (.int x2)] 9 = mkF m 0 #[.val (.ref x0), .val (.int (0 : Int32)), .val (.int x2), .unset, .unset, .unset, .unset, .unset, .unset] [] := by first | (simp [entryFrame, mkF, argsToLocals, Value.category]; done) | rfl
set_option maxRecDepth 65536 in
set_option maxHeartbeats 40000000 in
theorem rm3 (l : Launch) (Z : State) (a0 : Array Value) (hw : ∀ d ∈ tables_1, d.before a0 Z = true) (ws : List Jvm.Cond) (r1 : Addr) (i3 : Int32) (e0_r1 : Int32) (e1_r1 : Int32) (e2_r1 : Int32) (e3_r1 : Int32) (e4_r1 : Int32) (e5_r1 : Int32) (k_r1 : ClassId) (h0 : Heap) (n0 : Nat) (Z0 : n0 ≤ h0.size) (V_r1 : Arv Z h0 r1 k_r1 .byte (6 : Int32) [(.int e0_r1), (.int e1_r1), (.int e2_r1), (.int e3_r1), (.int e4_r1), (.int e5_r1)] (.int (0 : Int32))) :
    MetFree l (⟨"com/example/terseform/terseform/codec/CborTextString", "utf8SequenceEnd", "([BII)I"⟩ : MethodName) (head1 (Jvm.Cond.code (⟨"com/example/terseform/terseform/codec/CborTextString", "utf8SequenceEnd", "([BII)I"⟩ : MethodName) prog_31_method_9_code 9 (some .int) :: ws) ({ frames := 0, cells := 0, slots := 0, locals := 0 } : Room)) (fun a U => a = #[(.ref r1), (.int (0 : Int32)), (.int i3)] ∧ Z.Warmed39 U.vm ∧ U.heap = h0) (fun _ _ _ _ _ => True) (fun _ U o U' => ∃ v L, o = .returned v ∧ Q3 Z r1 i3 e0_r1 e1_r1 e2_r1 e3_r1 e4_r1 e5_r1 k_r1 h0 n0 v U'.heap L ∧ FrameEnd U o U' L ({ frames := 0, cells := 0, slots := 0, locals := 0 } : Room).cells ({ frames := 0, cells := 0, slots := 0, locals := 0 } : Room).slots) := by
  refine MetFree.of_bodySF (plainFor_of_name pn_1) hisR ?_
  intro p e s m args below meth c s₁ Bd hml0 hP hK
  obtain ⟨rfl, hZ, hh⟩ := hP
  have hx := Bd.exec
  have hby := Bd.bytes
  have hml : c.maxLocals = 9 := hml0
  have hown : s.vm.findClass "com/example/terseform/terseform/codec/CborTextString" = some m.cls := findClass_of_methodNamed Bd.named
  have hnm := (name_of_methodNamed Bd.named Bd.method).1
  have X0 : Stand p l e ({ frames := 0, cells := 0, slots := 0, locals := 0 } : Room) s m #[(.ref r1), (.int (0 : Int32)), (.int i3)] below meth c s₁ [] 0 0 := Stand.of_body Bd
  have e0 : s₁.heap = h0 := by rw [← hh, Bd.state]; rfl
  have N0 := Fr.nil n0
  have pre0 : ∀ t, Steps p.tables e below (s₁.setTop (mkF m 0 #[.val (.ref r1), .val (.int (0 : Int32)), .val (.int i3), .unset, .unset, .unset, .unset, .unset, .unset] [])) t → Steps p.tables e below (s₁.setTop (entryFrame m #[(.ref r1), (.int (0 : Int32)), (.int i3)] 9)) t := fun t k => castTop (ef_3 m r1 i3) k
  obtain ⟨cl1, Ar1, Cq1, Sz1, Nn1, Hh1, Gg1⟩ := id V_r1
  have hin1 : ¬ ((0 : Int32) < 0 ∨ cl1.slots.size ≤ ((0 : Int32)).toNatClampNeg) := inb_of Sz1 ⟨by decide, by decide⟩
  have hat1 : cl1.slots[((0 : Int32)).toNatClampNeg]? = some (.int e0_r1) := Hh1.at hin1 rfl
  have pre2 : ∀ t, Steps p.tables e below (s₁.setTop (mkF m 22 #[.val (.ref r1), .val (.int (0 : Int32)), .val (.int i3), .val (.int (e0_r1 &&& (255 : Int32))), .unset, .val (.int (128 : Int32)), .val (.int (191 : Int32)), .unset, .unset] [(.int (194 : Int32)), (.int (e0_r1 &&& (255 : Int32)))])) t → Steps p.tables e below (s₁.setTop (entryFrame m #[(.ref r1), (.int (0 : Int32)), (.int i3)] 9)) t := by
    intro t k
    refine pre0 _ ?_
    show Steps p.tables e below (s₁.setTop (mkF m 0 #[.val (.ref r1), .val (.int (0 : Int32)), .val (.int i3), .unset, .unset, .unset, .unset, .unset, .unset] [])) _
    refine XS.aloadN X0.here hx rfl (hb hby d3_0) rfl rfl ?_
    show Steps p.tables e below (s₁.setTop (mkF m 1 #[.val (.ref r1), .val (.int (0 : Int32)), .val (.int i3), .unset, .unset, .unset, .unset, .unset, .unset] [(.ref r1)])) _
    refine XS.iloadN X0.here hx rfl (hb hby d3_1) rfl ?_
    show Steps p.tables e below (s₁.setTop (mkF m 2 #[.val (.ref r1), .val (.int (0 : Int32)), .val (.int i3), .unset, .unset, .unset, .unset, .unset, .unset] [(.int (0 : Int32)), (.ref r1)])) _
    refine X0.baloadBytes hx (j := (0 : Int32)) (v := (.int e0_r1)) (by rw [e0]; exact Ar1.1) (State.isArrayOf_alike hZ.alike Ar1.2.1) Ar1.2.2 hin1 hat1 (g := (mkF m 2 #[.val (.ref r1), .val (.int (0 : Int32)), .val (.int i3), .unset, .unset, .unset, .unset, .unset, .unset] [(.int (0 : Int32)), (.ref r1)])) rfl rfl (hb hby d3_2) _ ?_
    show Steps p.tables e below (s₁.setTop (mkF m 3 #[.val (.ref r1), .val (.int (0 : Int32)), .val (.int i3), .unset, .unset, .unset, .unset, .unset, .unset] [(.int e0_r1)])) _
    refine XS.sipush X0.here hx rfl (hb hby d3_3) ?_
    show Steps p.tables e below (s₁.setTop (mkF m 6 #[.val (.ref r1), .val (.int (0 : Int32)), .val (.int i3), .unset, .unset, .unset, .unset, .unset, .unset] [(.int (255 : Int32)), (.int e0_r1)])) _
    refine XS.iand X0.here hx rfl (hb hby d3_6) rfl ?_
    show Steps p.tables e below (s₁.setTop (mkF m 7 #[.val (.ref r1), .val (.int (0 : Int32)), .val (.int i3), .unset, .unset, .unset, .unset, .unset, .unset] [(.int (e0_r1 &&& (255 : Int32)))])) _
    refine XS.istoreN X0.here hx rfl (hb hby d3_7) rfl (l' := #[.val (.ref r1), .val (.int (0 : Int32)), .val (.int i3), .val (.int (e0_r1 &&& (255 : Int32))), .unset, .unset, .unset, .unset, .unset]) rfl ?_
    show Steps p.tables e below (s₁.setTop (mkF m 8 #[.val (.ref r1), .val (.int (0 : Int32)), .val (.int i3), .val (.int (e0_r1 &&& (255 : Int32))), .unset, .unset, .unset, .unset, .unset] [])) _
    refine XS.sipush X0.here hx rfl (hb hby d3_8) ?_
    show Steps p.tables e below (s₁.setTop (mkF m 11 #[.val (.ref r1), .val (.int (0 : Int32)), .val (.int i3), .val (.int (e0_r1 &&& (255 : Int32))), .unset, .unset, .unset, .unset, .unset] [(.int (128 : Int32))])) _
    refine XS.istore X0.here hx rfl (hb hby d3_11) rfl (l' := #[.val (.ref r1), .val (.int (0 : Int32)), .val (.int i3), .val (.int (e0_r1 &&& (255 : Int32))), .unset, .val (.int (128 : Int32)), .unset, .unset, .unset]) rfl ?_
    show Steps p.tables e below (s₁.setTop (mkF m 13 #[.val (.ref r1), .val (.int (0 : Int32)), .val (.int i3), .val (.int (e0_r1 &&& (255 : Int32))), .unset, .val (.int (128 : Int32)), .unset, .unset, .unset] [])) _
    refine XS.sipush X0.here hx rfl (hb hby d3_13) ?_
    show Steps p.tables e below (s₁.setTop (mkF m 16 #[.val (.ref r1), .val (.int (0 : Int32)), .val (.int i3), .val (.int (e0_r1 &&& (255 : Int32))), .unset, .val (.int (128 : Int32)), .unset, .unset, .unset] [(.int (191 : Int32))])) _
    refine XS.istore X0.here hx rfl (hb hby d3_16) rfl (l' := #[.val (.ref r1), .val (.int (0 : Int32)), .val (.int i3), .val (.int (e0_r1 &&& (255 : Int32))), .unset, .val (.int (128 : Int32)), .val (.int (191 : Int32)), .unset, .unset]) rfl ?_
    show Steps p.tables e below (s₁.setTop (mkF m 18 #[.val (.ref r1), .val (.int (0 : Int32)), .val (.int i3), .val (.int (e0_r1 &&& (255 : Int32))), .unset, .val (.int (128 : Int32)), .val (.int (191 : Int32)), .unset, .unset] [])) _
    refine XS.iloadN X0.here hx rfl (hb hby d3_18) rfl ?_
    show Steps p.tables e below (s₁.setTop (mkF m 19 #[.val (.ref r1), .val (.int (0 : Int32)), .val (.int i3), .val (.int (e0_r1 &&& (255 : Int32))), .unset, .val (.int (128 : Int32)), .val (.int (191 : Int32)), .unset, .unset] [(.int (e0_r1 &&& (255 : Int32)))])) _
    refine XS.sipush X0.here hx rfl (hb hby d3_19) ?_
    exact k
  by_cases hc22_3 : (e0_r1 &&& (255 : Int32)) < (194 : Int32)
  · have pre4 : ∀ t, Steps p.tables e below (s₁.setTop (mkF m 149 #[.val (.ref r1), .val (.int (0 : Int32)), .val (.int i3), .val (.int (e0_r1 &&& (255 : Int32))), .unset, .val (.int (128 : Int32)), .val (.int (191 : Int32)), .unset, .unset] [(.int (-1 : Int32))])) t → Steps p.tables e below (s₁.setTop (entryFrame m #[(.ref r1), (.int (0 : Int32)), (.int i3)] 9)) t := by
      intro t k
      refine pre2 _ ?_
      show Steps p.tables e below (s₁.setTop (mkF m 22 #[.val (.ref r1), .val (.int (0 : Int32)), .val (.int i3), .val (.int (e0_r1 &&& (255 : Int32))), .unset, .val (.int (128 : Int32)), .val (.int (191 : Int32)), .unset, .unset] [(.int (194 : Int32)), (.int (e0_r1 &&& (255 : Int32)))])) _
      refine XS.icmpYes X0.here hx rfl (pc0 := 22) (pc' := 38) rfl (hb hby d3_22) rfl (tlt hc22_3).1 (by decide) (by decide) ?_
      show Steps p.tables e below (s₁.setTop (mkF m 38 #[.val (.ref r1), .val (.int (0 : Int32)), .val (.int i3), .val (.int (e0_r1 &&& (255 : Int32))), .unset, .val (.int (128 : Int32)), .val (.int (191 : Int32)), .unset, .unset] [])) _
      refine XS.iloadN X0.here hx rfl (hb hby d3_38) rfl ?_
      show Steps p.tables e below (s₁.setTop (mkF m 39 #[.val (.ref r1), .val (.int (0 : Int32)), .val (.int i3), .val (.int (e0_r1 &&& (255 : Int32))), .unset, .val (.int (128 : Int32)), .val (.int (191 : Int32)), .unset, .unset] [(.int (e0_r1 &&& (255 : Int32)))])) _
      refine XS.sipush X0.here hx rfl (hb hby d3_39) ?_
      show Steps p.tables e below (s₁.setTop (mkF m 42 #[.val (.ref r1), .val (.int (0 : Int32)), .val (.int i3), .val (.int (e0_r1 &&& (255 : Int32))), .unset, .val (.int (128 : Int32)), .val (.int (191 : Int32)), .unset, .unset] [(.int (224 : Int32)), (.int (e0_r1 &&& (255 : Int32)))])) _
      refine XS.icmpYes X0.here hx rfl (pc0 := 42) (pc' := 92) rfl (hb hby d3_42) rfl (tlt (own_iv0 (e0_r1 &&& (255 : Int32)) hc22_3)).1 (by decide) (by decide) ?_
      show Steps p.tables e below (s₁.setTop (mkF m 92 #[.val (.ref r1), .val (.int (0 : Int32)), .val (.int i3), .val (.int (e0_r1 &&& (255 : Int32))), .unset, .val (.int (128 : Int32)), .val (.int (191 : Int32)), .unset, .unset] [])) _
      refine XS.iloadN X0.here hx rfl (hb hby d3_92) rfl ?_
      show Steps p.tables e below (s₁.setTop (mkF m 93 #[.val (.ref r1), .val (.int (0 : Int32)), .val (.int i3), .val (.int (e0_r1 &&& (255 : Int32))), .unset, .val (.int (128 : Int32)), .val (.int (191 : Int32)), .unset, .unset] [(.int (e0_r1 &&& (255 : Int32)))])) _
      refine XS.sipush X0.here hx rfl (hb hby d3_93) ?_
      show Steps p.tables e below (s₁.setTop (mkF m 96 #[.val (.ref r1), .val (.int (0 : Int32)), .val (.int i3), .val (.int (e0_r1 &&& (255 : Int32))), .unset, .val (.int (128 : Int32)), .val (.int (191 : Int32)), .unset, .unset] [(.int (240 : Int32)), (.int (e0_r1 &&& (255 : Int32)))])) _
      refine XS.icmpYes X0.here hx rfl (pc0 := 96) (pc' := 146) rfl (hb hby d3_96) rfl (tlt (own_iv1 (e0_r1 &&& (255 : Int32)) hc22_3)).1 (by decide) (by decide) ?_
      show Steps p.tables e below (s₁.setTop (mkF m 146 #[.val (.ref r1), .val (.int (0 : Int32)), .val (.int i3), .val (.int (e0_r1 &&& (255 : Int32))), .unset, .val (.int (128 : Int32)), .val (.int (191 : Int32)), .unset, .unset] [])) _
      refine XS.iloadN X0.here hx rfl (hb hby d3_146) rfl ?_
      show Steps p.tables e below (s₁.setTop (mkF m 147 #[.val (.ref r1), .val (.int (0 : Int32)), .val (.int i3), .val (.int (e0_r1 &&& (255 : Int32))), .unset, .val (.int (128 : Int32)), .val (.int (191 : Int32)), .unset, .unset] [(.int (0 : Int32))])) _
      refine XS.iconst X0.here hx rfl (hb hby d3_147) ?_
      show Steps p.tables e below (s₁.setTop (mkF m 148 #[.val (.ref r1), .val (.int (0 : Int32)), .val (.int i3), .val (.int (e0_r1 &&& (255 : Int32))), .unset, .val (.int (128 : Int32)), .val (.int (191 : Int32)), .unset, .unset] [(.int (-1 : Int32)), (.int (0 : Int32))])) _
      refine XS.ixor X0.here hx rfl (hb hby d3_148) rfl ?_
      exact k
    obtain ⟨fs, hr, hrun, hended, hW, hsame⟩ := X0.leave (v := some (.int (-1 : Int32))) (fun h => by rw [Bd.returns] at h; cases h)
    refine ⟨_, _, pre4 _ ?_, hrun, hended, _, _, rfl, ?_, ⟨_, rfl⟩, hW, hsame.mono (by decide) (by decide)⟩
    · show Steps p.tables e below (s₁.setTop (mkF m 149 #[.val (.ref r1), .val (.int (0 : Int32)), .val (.int i3), .val (.int (e0_r1 &&& (255 : Int32))), .unset, .val (.int (128 : Int32)), .val (.int (191 : Int32)), .unset, .unset] [(.int (-1 : Int32))])) _
      exact retI X0 hx Bd.returns (hb hby d3_149) hr
    · show Q3 Z r1 i3 e0_r1 e1_r1 e2_r1 e3_r1 e4_r1 e5_r1 k_r1 h0 n0 _ s₁.heap _
      rw [e0]
      exact ⟨congrArg (fun z => some (Value.int z)) (show (own_r3 i3 e0_r1 e1_r1 e2_r1 e3_r1) = (-1 : Int32) from (if_pos hc22_3)).symm, N0, rfl⟩
  · have pre5 : ∀ t, Steps p.tables e below (s₁.setTop (mkF m 29 #[.val (.ref r1), .val (.int (0 : Int32)), .val (.int i3), .val (.int (e0_r1 &&& (255 : Int32))), .unset, .val (.int (128 : Int32)), .val (.int (191 : Int32)), .unset, .unset] [(.int (223 : Int32)), (.int (e0_r1 &&& (255 : Int32)))])) t → Steps p.tables e below (s₁.setTop (entryFrame m #[(.ref r1), (.int (0 : Int32)), (.int i3)] 9)) t := by
      intro t k
      refine pre2 _ ?_
      show Steps p.tables e below (s₁.setTop (mkF m 22 #[.val (.ref r1), .val (.int (0 : Int32)), .val (.int i3), .val (.int (e0_r1 &&& (255 : Int32))), .unset, .val (.int (128 : Int32)), .val (.int (191 : Int32)), .unset, .unset] [(.int (194 : Int32)), (.int (e0_r1 &&& (255 : Int32)))])) _
      refine XS.icmpNo X0.here hx rfl (hb hby d3_22) rfl (flt hc22_3).1 ?_
      show Steps p.tables e below (s₁.setTop (mkF m 25 #[.val (.ref r1), .val (.int (0 : Int32)), .val (.int i3), .val (.int (e0_r1 &&& (255 : Int32))), .unset, .val (.int (128 : Int32)), .val (.int (191 : Int32)), .unset, .unset] [])) _
      refine XS.iloadN X0.here hx rfl (hb hby d3_25) rfl ?_
      show Steps p.tables e below (s₁.setTop (mkF m 26 #[.val (.ref r1), .val (.int (0 : Int32)), .val (.int i3), .val (.int (e0_r1 &&& (255 : Int32))), .unset, .val (.int (128 : Int32)), .val (.int (191 : Int32)), .unset, .unset] [(.int (e0_r1 &&& (255 : Int32)))])) _
      refine XS.sipush X0.here hx rfl (hb hby d3_26) ?_
      exact k
    by_cases hc29_6 : (223 : Int32) < (e0_r1 &&& (255 : Int32))
    · have pre7 : ∀ t, Steps p.tables e below (s₁.setTop (mkF m 49 #[.val (.ref r1), .val (.int (0 : Int32)), .val (.int i3), .val (.int (e0_r1 &&& (255 : Int32))), .unset, .val (.int (128 : Int32)), .val (.int (191 : Int32)), .unset, .unset] [(.int (239 : Int32)), (.int (e0_r1 &&& (255 : Int32)))])) t → Steps p.tables e below (s₁.setTop (entryFrame m #[(.ref r1), (.int (0 : Int32)), (.int i3)] 9)) t := by
        intro t k
        refine pre5 _ ?_
        show Steps p.tables e below (s₁.setTop (mkF m 29 #[.val (.ref r1), .val (.int (0 : Int32)), .val (.int i3), .val (.int (e0_r1 &&& (255 : Int32))), .unset, .val (.int (128 : Int32)), .val (.int (191 : Int32)), .unset, .unset] [(.int (223 : Int32)), (.int (e0_r1 &&& (255 : Int32)))])) _
        refine XS.icmpYes X0.here hx rfl (pc0 := 29) (pc' := 38) rfl (hb hby d3_29) rfl (tlt hc29_6).2.2.1 (by decide) (by decide) ?_
        show Steps p.tables e below (s₁.setTop (mkF m 38 #[.val (.ref r1), .val (.int (0 : Int32)), .val (.int i3), .val (.int (e0_r1 &&& (255 : Int32))), .unset, .val (.int (128 : Int32)), .val (.int (191 : Int32)), .unset, .unset] [])) _
        refine XS.iloadN X0.here hx rfl (hb hby d3_38) rfl ?_
        show Steps p.tables e below (s₁.setTop (mkF m 39 #[.val (.ref r1), .val (.int (0 : Int32)), .val (.int i3), .val (.int (e0_r1 &&& (255 : Int32))), .unset, .val (.int (128 : Int32)), .val (.int (191 : Int32)), .unset, .unset] [(.int (e0_r1 &&& (255 : Int32)))])) _
        refine XS.sipush X0.here hx rfl (hb hby d3_39) ?_
        show Steps p.tables e below (s₁.setTop (mkF m 42 #[.val (.ref r1), .val (.int (0 : Int32)), .val (.int i3), .val (.int (e0_r1 &&& (255 : Int32))), .unset, .val (.int (128 : Int32)), .val (.int (191 : Int32)), .unset, .unset] [(.int (224 : Int32)), (.int (e0_r1 &&& (255 : Int32)))])) _
        refine XS.icmpNo X0.here hx rfl (hb hby d3_42) rfl (flt (own_iv2 (e0_r1 &&& (255 : Int32)) hc22_3 hc29_6)).1 ?_
        show Steps p.tables e below (s₁.setTop (mkF m 45 #[.val (.ref r1), .val (.int (0 : Int32)), .val (.int i3), .val (.int (e0_r1 &&& (255 : Int32))), .unset, .val (.int (128 : Int32)), .val (.int (191 : Int32)), .unset, .unset] [])) _
        refine XS.iloadN X0.here hx rfl (hb hby d3_45) rfl ?_
        show Steps p.tables e below (s₁.setTop (mkF m 46 #[.val (.ref r1), .val (.int (0 : Int32)), .val (.int i3), .val (.int (e0_r1 &&& (255 : Int32))), .unset, .val (.int (128 : Int32)), .val (.int (191 : Int32)), .unset, .unset] [(.int (e0_r1 &&& (255 : Int32)))])) _
        refine XS.sipush X0.here hx rfl (hb hby d3_46) ?_
        exact k
      by_cases hc49_8 : (239 : Int32) < (e0_r1 &&& (255 : Int32))
      · have pre9 : ∀ t, Steps p.tables e below (s₁.setTop (mkF m 103 #[.val (.ref r1), .val (.int (0 : Int32)), .val (.int i3), .val (.int (e0_r1 &&& (255 : Int32))), .unset, .val (.int (128 : Int32)), .val (.int (191 : Int32)), .unset, .unset] [(.int (244 : Int32)), (.int (e0_r1 &&& (255 : Int32)))])) t → Steps p.tables e below (s₁.setTop (entryFrame m #[(.ref r1), (.int (0 : Int32)), (.int i3)] 9)) t := by
          intro t k
          refine pre7 _ ?_
          show Steps p.tables e below (s₁.setTop (mkF m 49 #[.val (.ref r1), .val (.int (0 : Int32)), .val (.int i3), .val (.int (e0_r1 &&& (255 : Int32))), .unset, .val (.int (128 : Int32)), .val (.int (191 : Int32)), .unset, .unset] [(.int (239 : Int32)), (.int (e0_r1 &&& (255 : Int32)))])) _
          refine XS.icmpYes X0.here hx rfl (pc0 := 49) (pc' := 92) rfl (hb hby d3_49) rfl (tlt hc49_8).2.2.1 (by decide) (by decide) ?_
          show Steps p.tables e below (s₁.setTop (mkF m 92 #[.val (.ref r1), .val (.int (0 : Int32)), .val (.int i3), .val (.int (e0_r1 &&& (255 : Int32))), .unset, .val (.int (128 : Int32)), .val (.int (191 : Int32)), .unset, .unset] [])) _
          refine XS.iloadN X0.here hx rfl (hb hby d3_92) rfl ?_
          show Steps p.tables e below (s₁.setTop (mkF m 93 #[.val (.ref r1), .val (.int (0 : Int32)), .val (.int i3), .val (.int (e0_r1 &&& (255 : Int32))), .unset, .val (.int (128 : Int32)), .val (.int (191 : Int32)), .unset, .unset] [(.int (e0_r1 &&& (255 : Int32)))])) _
          refine XS.sipush X0.here hx rfl (hb hby d3_93) ?_
          show Steps p.tables e below (s₁.setTop (mkF m 96 #[.val (.ref r1), .val (.int (0 : Int32)), .val (.int i3), .val (.int (e0_r1 &&& (255 : Int32))), .unset, .val (.int (128 : Int32)), .val (.int (191 : Int32)), .unset, .unset] [(.int (240 : Int32)), (.int (e0_r1 &&& (255 : Int32)))])) _
          refine XS.icmpNo X0.here hx rfl (hb hby d3_96) rfl (flt (own_iv3 (e0_r1 &&& (255 : Int32)) hc22_3 hc29_6 hc49_8)).1 ?_
          show Steps p.tables e below (s₁.setTop (mkF m 99 #[.val (.ref r1), .val (.int (0 : Int32)), .val (.int i3), .val (.int (e0_r1 &&& (255 : Int32))), .unset, .val (.int (128 : Int32)), .val (.int (191 : Int32)), .unset, .unset] [])) _
          refine XS.iloadN X0.here hx rfl (hb hby d3_99) rfl ?_
          show Steps p.tables e below (s₁.setTop (mkF m 100 #[.val (.ref r1), .val (.int (0 : Int32)), .val (.int i3), .val (.int (e0_r1 &&& (255 : Int32))), .unset, .val (.int (128 : Int32)), .val (.int (191 : Int32)), .unset, .unset] [(.int (e0_r1 &&& (255 : Int32)))])) _
          refine XS.sipush X0.here hx rfl (hb hby d3_100) ?_
          exact k
        by_cases hc103_10 : (244 : Int32) < (e0_r1 &&& (255 : Int32))
        · have pre11 : ∀ t, Steps p.tables e below (s₁.setTop (mkF m 149 #[.val (.ref r1), .val (.int (0 : Int32)), .val (.int i3), .val (.int (e0_r1 &&& (255 : Int32))), .unset, .val (.int (128 : Int32)), .val (.int (191 : Int32)), .unset, .unset] [(.int (-1 : Int32))])) t → Steps p.tables e below (s₁.setTop (entryFrame m #[(.ref r1), (.int (0 : Int32)), (.int i3)] 9)) t := by
            intro t k
            refine pre9 _ ?_
            show Steps p.tables e below (s₁.setTop (mkF m 103 #[.val (.ref r1), .val (.int (0 : Int32)), .val (.int i3), .val (.int (e0_r1 &&& (255 : Int32))), .unset, .val (.int (128 : Int32)), .val (.int (191 : Int32)), .unset, .unset] [(.int (244 : Int32)), (.int (e0_r1 &&& (255 : Int32)))])) _
            refine XS.icmpYes X0.here hx rfl (pc0 := 103) (pc' := 146) rfl (hb hby d3_103) rfl (tlt hc103_10).2.2.1 (by decide) (by decide) ?_
            show Steps p.tables e below (s₁.setTop (mkF m 146 #[.val (.ref r1), .val (.int (0 : Int32)), .val (.int i3), .val (.int (e0_r1 &&& (255 : Int32))), .unset, .val (.int (128 : Int32)), .val (.int (191 : Int32)), .unset, .unset] [])) _
            refine XS.iloadN X0.here hx rfl (hb hby d3_146) rfl ?_
            show Steps p.tables e below (s₁.setTop (mkF m 147 #[.val (.ref r1), .val (.int (0 : Int32)), .val (.int i3), .val (.int (e0_r1 &&& (255 : Int32))), .unset, .val (.int (128 : Int32)), .val (.int (191 : Int32)), .unset, .unset] [(.int (0 : Int32))])) _
            refine XS.iconst X0.here hx rfl (hb hby d3_147) ?_
            show Steps p.tables e below (s₁.setTop (mkF m 148 #[.val (.ref r1), .val (.int (0 : Int32)), .val (.int i3), .val (.int (e0_r1 &&& (255 : Int32))), .unset, .val (.int (128 : Int32)), .val (.int (191 : Int32)), .unset, .unset] [(.int (-1 : Int32)), (.int (0 : Int32))])) _
            refine XS.ixor X0.here hx rfl (hb hby d3_148) rfl ?_
            exact k
          obtain ⟨fs, hr, hrun, hended, hW, hsame⟩ := X0.leave (v := some (.int (-1 : Int32))) (fun h => by rw [Bd.returns] at h; cases h)
          refine ⟨_, _, pre11 _ ?_, hrun, hended, _, _, rfl, ?_, ⟨_, rfl⟩, hW, hsame.mono (by decide) (by decide)⟩
          · show Steps p.tables e below (s₁.setTop (mkF m 149 #[.val (.ref r1), .val (.int (0 : Int32)), .val (.int i3), .val (.int (e0_r1 &&& (255 : Int32))), .unset, .val (.int (128 : Int32)), .val (.int (191 : Int32)), .unset, .unset] [(.int (-1 : Int32))])) _
            exact retI X0 hx Bd.returns (hb hby d3_149) hr
          · show Q3 Z r1 i3 e0_r1 e1_r1 e2_r1 e3_r1 e4_r1 e5_r1 k_r1 h0 n0 _ s₁.heap _
            rw [e0]
            exact ⟨congrArg (fun z => some (Value.int z)) (show (own_r3 i3 e0_r1 e1_r1 e2_r1 e3_r1) = (-1 : Int32) from ((if_neg hc22_3).trans ((if_pos hc29_6).trans ((if_pos hc49_8).trans (if_pos hc103_10))))).symm, N0, rfl⟩
        · have pre12 : ∀ t, Steps p.tables e below (s₁.setTop (mkF m 113 #[.val (.ref r1), .val (.int (0 : Int32)), .val (.int i3), .val (.int (e0_r1 &&& (255 : Int32))), .val (.int (4 : Int32)), .val (.int (128 : Int32)), .val (.int (191 : Int32)), .unset, .unset] [(.int (240 : Int32)), (.int (e0_r1 &&& (255 : Int32)))])) t → Steps p.tables e below (s₁.setTop (entryFrame m #[(.ref r1), (.int (0 : Int32)), (.int i3)] 9)) t := by
            intro t k
            refine pre9 _ ?_
            show Steps p.tables e below (s₁.setTop (mkF m 103 #[.val (.ref r1), .val (.int (0 : Int32)), .val (.int i3), .val (.int (e0_r1 &&& (255 : Int32))), .unset, .val (.int (128 : Int32)), .val (.int (191 : Int32)), .unset, .unset] [(.int (244 : Int32)), (.int (e0_r1 &&& (255 : Int32)))])) _
            refine XS.icmpNo X0.here hx rfl (hb hby d3_103) rfl (flt hc103_10).2.2.1 ?_
            show Steps p.tables e below (s₁.setTop (mkF m 106 #[.val (.ref r1), .val (.int (0 : Int32)), .val (.int i3), .val (.int (e0_r1 &&& (255 : Int32))), .unset, .val (.int (128 : Int32)), .val (.int (191 : Int32)), .unset, .unset] [])) _
            refine XS.iconst X0.here hx rfl (hb hby d3_106) ?_
            show Steps p.tables e below (s₁.setTop (mkF m 107 #[.val (.ref r1), .val (.int (0 : Int32)), .val (.int i3), .val (.int (e0_r1 &&& (255 : Int32))), .unset, .val (.int (128 : Int32)), .val (.int (191 : Int32)), .unset, .unset] [(.int (4 : Int32))])) _
            refine XS.istore X0.here hx rfl (hb hby d3_107) rfl (l' := #[.val (.ref r1), .val (.int (0 : Int32)), .val (.int i3), .val (.int (e0_r1 &&& (255 : Int32))), .val (.int (4 : Int32)), .val (.int (128 : Int32)), .val (.int (191 : Int32)), .unset, .unset]) rfl ?_
            show Steps p.tables e below (s₁.setTop (mkF m 109 #[.val (.ref r1), .val (.int (0 : Int32)), .val (.int i3), .val (.int (e0_r1 &&& (255 : Int32))), .val (.int (4 : Int32)), .val (.int (128 : Int32)), .val (.int (191 : Int32)), .unset, .unset] [])) _
            refine XS.iloadN X0.here hx rfl (hb hby d3_109) rfl ?_
            show Steps p.tables e below (s₁.setTop (mkF m 110 #[.val (.ref r1), .val (.int (0 : Int32)), .val (.int i3), .val (.int (e0_r1 &&& (255 : Int32))), .val (.int (4 : Int32)), .val (.int (128 : Int32)), .val (.int (191 : Int32)), .unset, .unset] [(.int (e0_r1 &&& (255 : Int32)))])) _
            refine XS.sipush X0.here hx rfl (hb hby d3_110) ?_
            exact k
          have pre16 : ∀ t, Steps p.tables e below (s₁.setTop (mkF m 124 #[.val (.ref r1), .val (.int (0 : Int32)), .val (.int i3), .val (.int (e0_r1 &&& (255 : Int32))), .val (.int (4 : Int32)), .val (.int (128 : Int32)), .val (.int (191 : Int32)), .unset, .unset] [(.int (own_j3_113_0 e0_r1))])) t → Steps p.tables e below (s₁.setTop (entryFrame m #[(.ref r1), (.int (0 : Int32)), (.int i3)] 9)) t := by
            by_cases hc113_13 : (e0_r1 &&& (255 : Int32)) = (240 : Int32)
            · have pre14 : ∀ t, Steps p.tables e below (s₁.setTop (mkF m 124 #[.val (.ref r1), .val (.int (0 : Int32)), .val (.int i3), .val (.int (e0_r1 &&& (255 : Int32))), .val (.int (4 : Int32)), .val (.int (128 : Int32)), .val (.int (191 : Int32)), .unset, .unset] [(.int (144 : Int32))])) t → Steps p.tables e below (s₁.setTop (entryFrame m #[(.ref r1), (.int (0 : Int32)), (.int i3)] 9)) t := by
                intro t k
                refine pre12 _ ?_
                show Steps p.tables e below (s₁.setTop (mkF m 113 #[.val (.ref r1), .val (.int (0 : Int32)), .val (.int i3), .val (.int (e0_r1 &&& (255 : Int32))), .val (.int (4 : Int32)), .val (.int (128 : Int32)), .val (.int (191 : Int32)), .unset, .unset] [(.int (240 : Int32)), (.int (e0_r1 &&& (255 : Int32)))])) _
                refine XS.icmpNo X0.here hx rfl (hb hby d3_113) rfl (teq hc113_13).2 ?_
                show Steps p.tables e below (s₁.setTop (mkF m 116 #[.val (.ref r1), .val (.int (0 : Int32)), .val (.int i3), .val (.int (e0_r1 &&& (255 : Int32))), .val (.int (4 : Int32)), .val (.int (128 : Int32)), .val (.int (191 : Int32)), .unset, .unset] [])) _
                refine XS.sipush X0.here hx rfl (hb hby d3_116) ?_
                show Steps p.tables e below (s₁.setTop (mkF m 119 #[.val (.ref r1), .val (.int (0 : Int32)), .val (.int i3), .val (.int (e0_r1 &&& (255 : Int32))), .val (.int (4 : Int32)), .val (.int (128 : Int32)), .val (.int (191 : Int32)), .unset, .unset] [(.int (144 : Int32))])) _
                refine XS.goto X0.here hx rfl (pc0 := 119) (pc' := 124) rfl (hb hby d3_119) (by decide) (by decide) ?_
                exact k
              exact fun t k => pre14 t (by rw [show (own_j3_113_0 e0_r1) = (144 : Int32) from (if_pos hc113_13)] at k; exact k)
            · have pre15 : ∀ t, Steps p.tables e below (s₁.setTop (mkF m 124 #[.val (.ref r1), .val (.int (0 : Int32)), .val (.int i3), .val (.int (e0_r1 &&& (255 : Int32))), .val (.int (4 : Int32)), .val (.int (128 : Int32)), .val (.int (191 : Int32)), .unset, .unset] [(.int (128 : Int32))])) t → Steps p.tables e below (s₁.setTop (entryFrame m #[(.ref r1), (.int (0 : Int32)), (.int i3)] 9)) t := by
                intro t k
                refine pre12 _ ?_
                show Steps p.tables e below (s₁.setTop (mkF m 113 #[.val (.ref r1), .val (.int (0 : Int32)), .val (.int i3), .val (.int (e0_r1 &&& (255 : Int32))), .val (.int (4 : Int32)), .val (.int (128 : Int32)), .val (.int (191 : Int32)), .unset, .unset] [(.int (240 : Int32)), (.int (e0_r1 &&& (255 : Int32)))])) _
                refine XS.icmpYes X0.here hx rfl (pc0 := 113) (pc' := 122) rfl (hb hby d3_113) rfl (feq hc113_13).2 (by decide) (by decide) ?_
                show Steps p.tables e below (s₁.setTop (mkF m 122 #[.val (.ref r1), .val (.int (0 : Int32)), .val (.int i3), .val (.int (e0_r1 &&& (255 : Int32))), .val (.int (4 : Int32)), .val (.int (128 : Int32)), .val (.int (191 : Int32)), .unset, .unset] [])) _
                refine XS.iload X0.here hx rfl (hb hby d3_122) rfl ?_
                exact k
              exact fun t k => pre15 t (by rw [show (own_j3_113_0 e0_r1) = (128 : Int32) from (if_neg hc113_13)] at k; exact k)
          have pre17 : ∀ t, Steps p.tables e below (s₁.setTop (mkF m 130 #[.val (.ref r1), .val (.int (0 : Int32)), .val (.int i3), .val (.int (e0_r1 &&& (255 : Int32))), .val (.int (4 : Int32)), .val (.int (own_j3_113_0 e0_r1)), .val (.int (191 : Int32)), .unset, .unset] [(.int (244 : Int32)), (.int (e0_r1 &&& (255 : Int32)))])) t → Steps p.tables e below (s₁.setTop (entryFrame m #[(.ref r1), (.int (0 : Int32)), (.int i3)] 9)) t := by
            intro t k
            refine pre16 _ ?_
            show Steps p.tables e below (s₁.setTop (mkF m 124 #[.val (.ref r1), .val (.int (0 : Int32)), .val (.int i3), .val (.int (e0_r1 &&& (255 : Int32))), .val (.int (4 : Int32)), .val (.int (128 : Int32)), .val (.int (191 : Int32)), .unset, .unset] [(.int (own_j3_113_0 e0_r1))])) _
            refine XS.istore X0.here hx rfl (hb hby d3_124) rfl (l' := #[.val (.ref r1), .val (.int (0 : Int32)), .val (.int i3), .val (.int (e0_r1 &&& (255 : Int32))), .val (.int (4 : Int32)), .val (.int (own_j3_113_0 e0_r1)), .val (.int (191 : Int32)), .unset, .unset]) rfl ?_
            show Steps p.tables e below (s₁.setTop (mkF m 126 #[.val (.ref r1), .val (.int (0 : Int32)), .val (.int i3), .val (.int (e0_r1 &&& (255 : Int32))), .val (.int (4 : Int32)), .val (.int (own_j3_113_0 e0_r1)), .val (.int (191 : Int32)), .unset, .unset] [])) _
            refine XS.iloadN X0.here hx rfl (hb hby d3_126) rfl ?_
            show Steps p.tables e below (s₁.setTop (mkF m 127 #[.val (.ref r1), .val (.int (0 : Int32)), .val (.int i3), .val (.int (e0_r1 &&& (255 : Int32))), .val (.int (4 : Int32)), .val (.int (own_j3_113_0 e0_r1)), .val (.int (191 : Int32)), .unset, .unset] [(.int (e0_r1 &&& (255 : Int32)))])) _
            refine XS.sipush X0.here hx rfl (hb hby d3_127) ?_
            exact k
          have pre21 : ∀ t, Steps p.tables e below (s₁.setTop (mkF m 141 #[.val (.ref r1), .val (.int (0 : Int32)), .val (.int i3), .val (.int (e0_r1 &&& (255 : Int32))), .val (.int (4 : Int32)), .val (.int (own_j3_113_0 e0_r1)), .val (.int (191 : Int32)), .unset, .unset] [(.int (own_j3_130_0 e0_r1))])) t → Steps p.tables e below (s₁.setTop (entryFrame m #[(.ref r1), (.int (0 : Int32)), (.int i3)] 9)) t := by
            by_cases hc130_18 : (e0_r1 &&& (255 : Int32)) = (244 : Int32)
            · have pre19 : ∀ t, Steps p.tables e below (s₁.setTop (mkF m 141 #[.val (.ref r1), .val (.int (0 : Int32)), .val (.int i3), .val (.int (e0_r1 &&& (255 : Int32))), .val (.int (4 : Int32)), .val (.int (own_j3_113_0 e0_r1)), .val (.int (191 : Int32)), .unset, .unset] [(.int (143 : Int32))])) t → Steps p.tables e below (s₁.setTop (entryFrame m #[(.ref r1), (.int (0 : Int32)), (.int i3)] 9)) t := by
                intro t k
                refine pre17 _ ?_
                show Steps p.tables e below (s₁.setTop (mkF m 130 #[.val (.ref r1), .val (.int (0 : Int32)), .val (.int i3), .val (.int (e0_r1 &&& (255 : Int32))), .val (.int (4 : Int32)), .val (.int (own_j3_113_0 e0_r1)), .val (.int (191 : Int32)), .unset, .unset] [(.int (244 : Int32)), (.int (e0_r1 &&& (255 : Int32)))])) _
                refine XS.icmpNo X0.here hx rfl (hb hby d3_130) rfl (teq hc130_18).2 ?_
                show Steps p.tables e below (s₁.setTop (mkF m 133 #[.val (.ref r1), .val (.int (0 : Int32)), .val (.int i3), .val (.int (e0_r1 &&& (255 : Int32))), .val (.int (4 : Int32)), .val (.int (own_j3_113_0 e0_r1)), .val (.int (191 : Int32)), .unset, .unset] [])) _
                refine XS.sipush X0.here hx rfl (hb hby d3_133) ?_
                show Steps p.tables e below (s₁.setTop (mkF m 136 #[.val (.ref r1), .val (.int (0 : Int32)), .val (.int i3), .val (.int (e0_r1 &&& (255 : Int32))), .val (.int (4 : Int32)), .val (.int (own_j3_113_0 e0_r1)), .val (.int (191 : Int32)), .unset, .unset] [(.int (143 : Int32))])) _
                refine XS.goto X0.here hx rfl (pc0 := 136) (pc' := 141) rfl (hb hby d3_136) (by decide) (by decide) ?_
                exact k
              exact fun t k => pre19 t (by rw [show (own_j3_130_0 e0_r1) = (143 : Int32) from (if_pos hc130_18)] at k; exact k)
            · have pre20 : ∀ t, Steps p.tables e below (s₁.setTop (mkF m 141 #[.val (.ref r1), .val (.int (0 : Int32)), .val (.int i3), .val (.int (e0_r1 &&& (255 : Int32))), .val (.int (4 : Int32)), .val (.int (own_j3_113_0 e0_r1)), .val (.int (191 : Int32)), .unset, .unset] [(.int (191 : Int32))])) t → Steps p.tables e below (s₁.setTop (entryFrame m #[(.ref r1), (.int (0 : Int32)), (.int i3)] 9)) t := by
                intro t k
                refine pre17 _ ?_
                show Steps p.tables e below (s₁.setTop (mkF m 130 #[.val (.ref r1), .val (.int (0 : Int32)), .val (.int i3), .val (.int (e0_r1 &&& (255 : Int32))), .val (.int (4 : Int32)), .val (.int (own_j3_113_0 e0_r1)), .val (.int (191 : Int32)), .unset, .unset] [(.int (244 : Int32)), (.int (e0_r1 &&& (255 : Int32)))])) _
                refine XS.icmpYes X0.here hx rfl (pc0 := 130) (pc' := 139) rfl (hb hby d3_130) rfl (feq hc130_18).2 (by decide) (by decide) ?_
                show Steps p.tables e below (s₁.setTop (mkF m 139 #[.val (.ref r1), .val (.int (0 : Int32)), .val (.int i3), .val (.int (e0_r1 &&& (255 : Int32))), .val (.int (4 : Int32)), .val (.int (own_j3_113_0 e0_r1)), .val (.int (191 : Int32)), .unset, .unset] [])) _
                refine XS.iload X0.here hx rfl (hb hby d3_139) rfl ?_
                exact k
              exact fun t k => pre20 t (by rw [show (own_j3_130_0 e0_r1) = (191 : Int32) from (if_neg hc130_18)] at k; exact k)
          have pre22 : ∀ t, Steps p.tables e below (s₁.setTop (mkF m 167 #[.val (.ref r1), .val (.int (0 : Int32)), .val (.int i3), .val (.int (e0_r1 &&& (255 : Int32))), .val (.int (4 : Int32)), .val (.int (own_j3_113_0 e0_r1)), .val (.int (own_j3_130_0 e0_r1)), .val (.int (1 : Int32)), .unset] [(.int i3), (.int (1 : Int32))])) t → Steps p.tables e below (s₁.setTop (entryFrame m #[(.ref r1), (.int (0 : Int32)), (.int i3)] 9)) t := by
            intro t k
            refine pre21 _ ?_
            show Steps p.tables e below (s₁.setTop (mkF m 141 #[.val (.ref r1), .val (.int (0 : Int32)), .val (.int i3), .val (.int (e0_r1 &&& (255 : Int32))), .val (.int (4 : Int32)), .val (.int (own_j3_113_0 e0_r1)), .val (.int (191 : Int32)), .unset, .unset] [(.int (own_j3_130_0 e0_r1))])) _
            refine XS.istore X0.here hx rfl (hb hby d3_141) rfl (l' := #[.val (.ref r1), .val (.int (0 : Int32)), .val (.int i3), .val (.int (e0_r1 &&& (255 : Int32))), .val (.int (4 : Int32)), .val (.int (own_j3_113_0 e0_r1)), .val (.int (own_j3_130_0 e0_r1)), .unset, .unset]) rfl ?_
            show Steps p.tables e below (s₁.setTop (mkF m 143 #[.val (.ref r1), .val (.int (0 : Int32)), .val (.int i3), .val (.int (e0_r1 &&& (255 : Int32))), .val (.int (4 : Int32)), .val (.int (own_j3_113_0 e0_r1)), .val (.int (own_j3_130_0 e0_r1)), .unset, .unset] [])) _
            refine XS.goto X0.here hx rfl (pc0 := 143) (pc' := 150) rfl (hb hby d3_143) (by decide) (by decide) ?_
            show Steps p.tables e below (s₁.setTop (mkF m 150 #[.val (.ref r1), .val (.int (0 : Int32)), .val (.int i3), .val (.int (e0_r1 &&& (255 : Int32))), .val (.int (4 : Int32)), .val (.int (own_j3_113_0 e0_r1)), .val (.int (own_j3_130_0 e0_r1)), .unset, .unset] [])) _
            refine XS.iloadN X0.here hx rfl (hb hby d3_150) rfl ?_
            show Steps p.tables e below (s₁.setTop (mkF m 151 #[.val (.ref r1), .val (.int (0 : Int32)), .val (.int i3), .val (.int (e0_r1 &&& (255 : Int32))), .val (.int (4 : Int32)), .val (.int (own_j3_113_0 e0_r1)), .val (.int (own_j3_130_0 e0_r1)), .unset, .unset] [(.int (0 : Int32))])) _
            refine XS.iconst X0.here hx rfl (hb hby d3_151) ?_
            show Steps p.tables e below (s₁.setTop (mkF m 152 #[.val (.ref r1), .val (.int (0 : Int32)), .val (.int i3), .val (.int (e0_r1 &&& (255 : Int32))), .val (.int (4 : Int32)), .val (.int (own_j3_113_0 e0_r1)), .val (.int (own_j3_130_0 e0_r1)), .unset, .unset] [(.int (1 : Int32)), (.int (0 : Int32))])) _
            refine XS.iadd X0.here hx rfl (hb hby d3_152) rfl ?_
            show Steps p.tables e below (s₁.setTop (mkF m 153 #[.val (.ref r1), .val (.int (0 : Int32)), .val (.int i3), .val (.int (e0_r1 &&& (255 : Int32))), .val (.int (4 : Int32)), .val (.int (own_j3_113_0 e0_r1)), .val (.int (own_j3_130_0 e0_r1)), .unset, .unset] [(.int (1 : Int32))])) _
            refine XS.istore X0.here hx rfl (hb hby d3_153) rfl (l' := #[.val (.ref r1), .val (.int (0 : Int32)), .val (.int i3), .val (.int (e0_r1 &&& (255 : Int32))), .val (.int (4 : Int32)), .val (.int (own_j3_113_0 e0_r1)), .val (.int (own_j3_130_0 e0_r1)), .val (.int (1 : Int32)), .unset]) rfl ?_
            show Steps p.tables e below (s₁.setTop (mkF m 155 #[.val (.ref r1), .val (.int (0 : Int32)), .val (.int i3), .val (.int (e0_r1 &&& (255 : Int32))), .val (.int (4 : Int32)), .val (.int (own_j3_113_0 e0_r1)), .val (.int (own_j3_130_0 e0_r1)), .val (.int (1 : Int32)), .unset] [])) _
            refine XS.iload X0.here hx rfl (hb hby d3_155) rfl ?_
            show Steps p.tables e below (s₁.setTop (mkF m 157 #[.val (.ref r1), .val (.int (0 : Int32)), .val (.int i3), .val (.int (e0_r1 &&& (255 : Int32))), .val (.int (4 : Int32)), .val (.int (own_j3_113_0 e0_r1)), .val (.int (own_j3_130_0 e0_r1)), .val (.int (1 : Int32)), .unset] [(.int (1 : Int32))])) _
            refine XS.iloadN X0.here hx rfl (hb hby d3_157) rfl ?_
            show Steps p.tables e below (s₁.setTop (mkF m 158 #[.val (.ref r1), .val (.int (0 : Int32)), .val (.int i3), .val (.int (e0_r1 &&& (255 : Int32))), .val (.int (4 : Int32)), .val (.int (own_j3_113_0 e0_r1)), .val (.int (own_j3_130_0 e0_r1)), .val (.int (1 : Int32)), .unset] [(.int (0 : Int32)), (.int (1 : Int32))])) _
            refine XS.iload X0.here hx rfl (hb hby d3_158) rfl ?_
            show Steps p.tables e below (s₁.setTop (mkF m 160 #[.val (.ref r1), .val (.int (0 : Int32)), .val (.int i3), .val (.int (e0_r1 &&& (255 : Int32))), .val (.int (4 : Int32)), .val (.int (own_j3_113_0 e0_r1)), .val (.int (own_j3_130_0 e0_r1)), .val (.int (1 : Int32)), .unset] [(.int (4 : Int32)), (.int (0 : Int32)), (.int (1 : Int32))])) _
            refine XS.iadd X0.here hx rfl (hb hby d3_160) rfl ?_
            show Steps p.tables e below (s₁.setTop (mkF m 161 #[.val (.ref r1), .val (.int (0 : Int32)), .val (.int i3), .val (.int (e0_r1 &&& (255 : Int32))), .val (.int (4 : Int32)), .val (.int (own_j3_113_0 e0_r1)), .val (.int (own_j3_130_0 e0_r1)), .val (.int (1 : Int32)), .unset] [(.int (4 : Int32)), (.int (1 : Int32))])) _
            refine XS.icmpNo X0.here hx rfl (hb hby d3_161) rfl (tlt (by decide : (1 : Int32) < (4 : Int32))).2.1 ?_
            show Steps p.tables e below (s₁.setTop (mkF m 164 #[.val (.ref r1), .val (.int (0 : Int32)), .val (.int i3), .val (.int (e0_r1 &&& (255 : Int32))), .val (.int (4 : Int32)), .val (.int (own_j3_113_0 e0_r1)), .val (.int (own_j3_130_0 e0_r1)), .val (.int (1 : Int32)), .unset] [])) _
            refine XS.iload X0.here hx rfl (hb hby d3_164) rfl ?_
            show Steps p.tables e below (s₁.setTop (mkF m 166 #[.val (.ref r1), .val (.int (0 : Int32)), .val (.int i3), .val (.int (e0_r1 &&& (255 : Int32))), .val (.int (4 : Int32)), .val (.int (own_j3_113_0 e0_r1)), .val (.int (own_j3_130_0 e0_r1)), .val (.int (1 : Int32)), .unset] [(.int (1 : Int32))])) _
            refine XS.iloadN X0.here hx rfl (hb hby d3_166) rfl ?_
            exact k
          have pre27 : ∀ t, Steps p.tables e below (s₁.setTop (mkF m 182 #[.val (.ref r1), .val (.int (0 : Int32)), .val (.int i3), .val (.int (e0_r1 &&& (255 : Int32))), .val (.int (4 : Int32)), .val (.int (own_j3_113_0 e0_r1)), .val (.int (own_j3_130_0 e0_r1)), .val (.int (1 : Int32)), .unset] [(.int (own_j3_167_0 i3 e1_r1))])) t → Steps p.tables e below (s₁.setTop (entryFrame m #[(.ref r1), (.int (0 : Int32)), (.int i3)] 9)) t := by
            by_cases hc167_23 : (1 : Int32) < i3
            · obtain ⟨cl24, Ar24, Cq24, Sz24, Nn24, Hh24, Gg24⟩ := id V_r1
              have hin24 : ¬ ((1 : Int32) < 0 ∨ cl24.slots.size ≤ ((1 : Int32)).toNatClampNeg) := inb_of Sz24 ⟨by decide, by decide⟩
              have hat24 : cl24.slots[((1 : Int32)).toNatClampNeg]? = some (.int e1_r1) := Hh24.at hin24 rfl
              have pre25 : ∀ t, Steps p.tables e below (s₁.setTop (mkF m 182 #[.val (.ref r1), .val (.int (0 : Int32)), .val (.int i3), .val (.int (e0_r1 &&& (255 : Int32))), .val (.int (4 : Int32)), .val (.int (own_j3_113_0 e0_r1)), .val (.int (own_j3_130_0 e0_r1)), .val (.int (1 : Int32)), .unset] [(.int (e1_r1 &&& (255 : Int32)))])) t → Steps p.tables e below (s₁.setTop (entryFrame m #[(.ref r1), (.int (0 : Int32)), (.int i3)] 9)) t := by
                intro t k
                refine pre22 _ ?_
                show Steps p.tables e below (s₁.setTop (mkF m 167 #[.val (.ref r1), .val (.int (0 : Int32)), .val (.int i3), .val (.int (e0_r1 &&& (255 : Int32))), .val (.int (4 : Int32)), .val (.int (own_j3_113_0 e0_r1)), .val (.int (own_j3_130_0 e0_r1)), .val (.int (1 : Int32)), .unset] [(.int i3), (.int (1 : Int32))])) _
                refine XS.icmpNo X0.here hx rfl (hb hby d3_167) rfl (tlt hc167_23).2.1 ?_
                show Steps p.tables e below (s₁.setTop (mkF m 170 #[.val (.ref r1), .val (.int (0 : Int32)), .val (.int i3), .val (.int (e0_r1 &&& (255 : Int32))), .val (.int (4 : Int32)), .val (.int (own_j3_113_0 e0_r1)), .val (.int (own_j3_130_0 e0_r1)), .val (.int (1 : Int32)), .unset] [])) _
                refine XS.aloadN X0.here hx rfl (hb hby d3_170) rfl rfl ?_
                show Steps p.tables e below (s₁.setTop (mkF m 171 #[.val (.ref r1), .val (.int (0 : Int32)), .val (.int i3), .val (.int (e0_r1 &&& (255 : Int32))), .val (.int (4 : Int32)), .val (.int (own_j3_113_0 e0_r1)), .val (.int (own_j3_130_0 e0_r1)), .val (.int (1 : Int32)), .unset] [(.ref r1)])) _
                refine XS.iload X0.here hx rfl (hb hby d3_171) rfl ?_
                show Steps p.tables e below (s₁.setTop (mkF m 173 #[.val (.ref r1), .val (.int (0 : Int32)), .val (.int i3), .val (.int (e0_r1 &&& (255 : Int32))), .val (.int (4 : Int32)), .val (.int (own_j3_113_0 e0_r1)), .val (.int (own_j3_130_0 e0_r1)), .val (.int (1 : Int32)), .unset] [(.int (1 : Int32)), (.ref r1)])) _
                refine X0.baloadBytes hx (j := (1 : Int32)) (v := (.int e1_r1)) (by rw [e0]; exact Ar24.1) (State.isArrayOf_alike hZ.alike Ar24.2.1) Ar24.2.2 hin24 hat24 (g := (mkF m 173 #[.val (.ref r1), .val (.int (0 : Int32)), .val (.int i3), .val (.int (e0_r1 &&& (255 : Int32))), .val (.int (4 : Int32)), .val (.int (own_j3_113_0 e0_r1)), .val (.int (own_j3_130_0 e0_r1)), .val (.int (1 : Int32)), .unset] [(.int (1 : Int32)), (.ref r1)])) rfl rfl (hb hby d3_173) _ ?_
                show Steps p.tables e below (s₁.setTop (mkF m 174 #[.val (.ref r1), .val (.int (0 : Int32)), .val (.int i3), .val (.int (e0_r1 &&& (255 : Int32))), .val (.int (4 : Int32)), .val (.int (own_j3_113_0 e0_r1)), .val (.int (own_j3_130_0 e0_r1)), .val (.int (1 : Int32)), .unset] [(.int e1_r1)])) _
                refine XS.sipush X0.here hx rfl (hb hby d3_174) ?_
                show Steps p.tables e below (s₁.setTop (mkF m 177 #[.val (.ref r1), .val (.int (0 : Int32)), .val (.int i3), .val (.int (e0_r1 &&& (255 : Int32))), .val (.int (4 : Int32)), .val (.int (own_j3_113_0 e0_r1)), .val (.int (own_j3_130_0 e0_r1)), .val (.int (1 : Int32)), .unset] [(.int (255 : Int32)), (.int e1_r1)])) _
                refine XS.iand X0.here hx rfl (hb hby d3_177) rfl ?_
                show Steps p.tables e below (s₁.setTop (mkF m 178 #[.val (.ref r1), .val (.int (0 : Int32)), .val (.int i3), .val (.int (e0_r1 &&& (255 : Int32))), .val (.int (4 : Int32)), .val (.int (own_j3_113_0 e0_r1)), .val (.int (own_j3_130_0 e0_r1)), .val (.int (1 : Int32)), .unset] [(.int (e1_r1 &&& (255 : Int32)))])) _
                refine XS.goto X0.here hx rfl (pc0 := 178) (pc' := 182) rfl (hb hby d3_178) (by decide) (by decide) ?_
                exact k
              exact fun t k => pre25 t (by rw [show (own_j3_167_0 i3 e1_r1) = (e1_r1 &&& (255 : Int32)) from (if_pos hc167_23)] at k; exact k)
            · have pre26 : ∀ t, Steps p.tables e below (s₁.setTop (mkF m 182 #[.val (.ref r1), .val (.int (0 : Int32)), .val (.int i3), .val (.int (e0_r1 &&& (255 : Int32))), .val (.int (4 : Int32)), .val (.int (own_j3_113_0 e0_r1)), .val (.int (own_j3_130_0 e0_r1)), .val (.int (1 : Int32)), .unset] [(.int (-1 : Int32))])) t → Steps p.tables e below (s₁.setTop (entryFrame m #[(.ref r1), (.int (0 : Int32)), (.int i3)] 9)) t := by
                intro t k
                refine pre22 _ ?_
                show Steps p.tables e below (s₁.setTop (mkF m 167 #[.val (.ref r1), .val (.int (0 : Int32)), .val (.int i3), .val (.int (e0_r1 &&& (255 : Int32))), .val (.int (4 : Int32)), .val (.int (own_j3_113_0 e0_r1)), .val (.int (own_j3_130_0 e0_r1)), .val (.int (1 : Int32)), .unset] [(.int i3), (.int (1 : Int32))])) _
                refine XS.icmpYes X0.here hx rfl (pc0 := 167) (pc' := 181) rfl (hb hby d3_167) rfl (flt hc167_23).2.1 (by decide) (by decide) ?_
                show Steps p.tables e below (s₁.setTop (mkF m 181 #[.val (.ref r1), .val (.int (0 : Int32)), .val (.int i3), .val (.int (e0_r1 &&& (255 : Int32))), .val (.int (4 : Int32)), .val (.int (own_j3_113_0 e0_r1)), .val (.int (own_j3_130_0 e0_r1)), .val (.int (1 : Int32)), .unset] [])) _
                refine XS.iconst X0.here hx rfl (hb hby d3_181) ?_
                exact k
              exact fun t k => pre26 t (by rw [show (own_j3_167_0 i3 e1_r1) = (-1 : Int32) from (if_neg hc167_23)] at k; exact k)
          have pre28 : ∀ t, Steps p.tables e below (s₁.setTop (mkF m 188 #[.val (.ref r1), .val (.int (0 : Int32)), .val (.int i3), .val (.int (e0_r1 &&& (255 : Int32))), .val (.int (4 : Int32)), .val (.int (own_j3_113_0 e0_r1)), .val (.int (own_j3_130_0 e0_r1)), .val (.int (1 : Int32)), .val (.int (own_j3_167_0 i3 e1_r1))] [(.int (own_j3_113_0 e0_r1)), (.int (own_j3_167_0 i3 e1_r1))])) t → Steps p.tables e below (s₁.setTop (entryFrame m #[(.ref r1), (.int (0 : Int32)), (.int i3)] 9)) t := by
            intro t k
            refine pre27 _ ?_
            show Steps p.tables e below (s₁.setTop (mkF m 182 #[.val (.ref r1), .val (.int (0 : Int32)), .val (.int i3), .val (.int (e0_r1 &&& (255 : Int32))), .val (.int (4 : Int32)), .val (.int (own_j3_113_0 e0_r1)), .val (.int (own_j3_130_0 e0_r1)), .val (.int (1 : Int32)), .unset] [(.int (own_j3_167_0 i3 e1_r1))])) _
            refine XS.istore X0.here hx rfl (hb hby d3_182) rfl (l' := #[.val (.ref r1), .val (.int (0 : Int32)), .val (.int i3), .val (.int (e0_r1 &&& (255 : Int32))), .val (.int (4 : Int32)), .val (.int (own_j3_113_0 e0_r1)), .val (.int (own_j3_130_0 e0_r1)), .val (.int (1 : Int32)), .val (.int (own_j3_167_0 i3 e1_r1))]) rfl ?_
            show Steps p.tables e below (s₁.setTop (mkF m 184 #[.val (.ref r1), .val (.int (0 : Int32)), .val (.int i3), .val (.int (e0_r1 &&& (255 : Int32))), .val (.int (4 : Int32)), .val (.int (own_j3_113_0 e0_r1)), .val (.int (own_j3_130_0 e0_r1)), .val (.int (1 : Int32)), .val (.int (own_j3_167_0 i3 e1_r1))] [])) _
            refine XS.iload X0.here hx rfl (hb hby d3_184) rfl ?_
            show Steps p.tables e below (s₁.setTop (mkF m 186 #[.val (.ref r1), .val (.int (0 : Int32)), .val (.int i3), .val (.int (e0_r1 &&& (255 : Int32))), .val (.int (4 : Int32)), .val (.int (own_j3_113_0 e0_r1)), .val (.int (own_j3_130_0 e0_r1)), .val (.int (1 : Int32)), .val (.int (own_j3_167_0 i3 e1_r1))] [(.int (own_j3_167_0 i3 e1_r1))])) _
            refine XS.iload X0.here hx rfl (hb hby d3_186) rfl ?_
            exact k
          by_cases hc188_29 : (own_j3_167_0 i3 e1_r1) < (own_j3_113_0 e0_r1)
          · have pre30 : ∀ t, Steps p.tables e below (s₁.setTop (mkF m 202 #[.val (.ref r1), .val (.int (0 : Int32)), .val (.int i3), .val (.int (e0_r1 &&& (255 : Int32))), .val (.int (4 : Int32)), .val (.int (own_j3_113_0 e0_r1)), .val (.int (own_j3_130_0 e0_r1)), .val (.int (1 : Int32)), .val (.int (own_j3_167_0 i3 e1_r1))] [(.int (-2 : Int32))])) t → Steps p.tables e below (s₁.setTop (entryFrame m #[(.ref r1), (.int (0 : Int32)), (.int i3)] 9)) t := by
              intro t k
              refine pre28 _ ?_
              show Steps p.tables e below (s₁.setTop (mkF m 188 #[.val (.ref r1), .val (.int (0 : Int32)), .val (.int i3), .val (.int (e0_r1 &&& (255 : Int32))), .val (.int (4 : Int32)), .val (.int (own_j3_113_0 e0_r1)), .val (.int (own_j3_130_0 e0_r1)), .val (.int (1 : Int32)), .val (.int (own_j3_167_0 i3 e1_r1))] [(.int (own_j3_113_0 e0_r1)), (.int (own_j3_167_0 i3 e1_r1))])) _
              refine XS.icmpYes X0.here hx rfl (pc0 := 188) (pc' := 198) rfl (hb hby d3_188) rfl (tlt hc188_29).1 (by decide) (by decide) ?_
              show Steps p.tables e below (s₁.setTop (mkF m 198 #[.val (.ref r1), .val (.int (0 : Int32)), .val (.int i3), .val (.int (e0_r1 &&& (255 : Int32))), .val (.int (4 : Int32)), .val (.int (own_j3_113_0 e0_r1)), .val (.int (own_j3_130_0 e0_r1)), .val (.int (1 : Int32)), .val (.int (own_j3_167_0 i3 e1_r1))] [])) _
              refine XS.iload X0.here hx rfl (hb hby d3_198) rfl ?_
              show Steps p.tables e below (s₁.setTop (mkF m 200 #[.val (.ref r1), .val (.int (0 : Int32)), .val (.int i3), .val (.int (e0_r1 &&& (255 : Int32))), .val (.int (4 : Int32)), .val (.int (own_j3_113_0 e0_r1)), .val (.int (own_j3_130_0 e0_r1)), .val (.int (1 : Int32)), .val (.int (own_j3_167_0 i3 e1_r1))] [(.int (1 : Int32))])) _
              refine XS.iconst X0.here hx rfl (hb hby d3_200) ?_
              show Steps p.tables e below (s₁.setTop (mkF m 201 #[.val (.ref r1), .val (.int (0 : Int32)), .val (.int i3), .val (.int (e0_r1 &&& (255 : Int32))), .val (.int (4 : Int32)), .val (.int (own_j3_113_0 e0_r1)), .val (.int (own_j3_130_0 e0_r1)), .val (.int (1 : Int32)), .val (.int (own_j3_167_0 i3 e1_r1))] [(.int (-1 : Int32)), (.int (1 : Int32))])) _
              refine XS.ixor X0.here hx rfl (hb hby d3_201) rfl ?_
              exact k
            obtain ⟨fs, hr, hrun, hended, hW, hsame⟩ := X0.leave (v := some (.int (-2 : Int32))) (fun h => by rw [Bd.returns] at h; cases h)
            refine ⟨_, _, pre30 _ ?_, hrun, hended, _, _, rfl, ?_, ⟨_, rfl⟩, hW, hsame.mono (by decide) (by decide)⟩
            · show Steps p.tables e below (s₁.setTop (mkF m 202 #[.val (.ref r1), .val (.int (0 : Int32)), .val (.int i3), .val (.int (e0_r1 &&& (255 : Int32))), .val (.int (4 : Int32)), .val (.int (own_j3_113_0 e0_r1)), .val (.int (own_j3_130_0 e0_r1)), .val (.int (1 : Int32)), .val (.int (own_j3_167_0 i3 e1_r1))] [(.int (-2 : Int32))])) _
              exact retI X0 hx Bd.returns (hb hby d3_202) hr
            · show Q3 Z r1 i3 e0_r1 e1_r1 e2_r1 e3_r1 e4_r1 e5_r1 k_r1 h0 n0 _ s₁.heap _
              rw [e0]
              exact ⟨congrArg (fun z => some (Value.int z)) (show (own_r3 i3 e0_r1 e1_r1 e2_r1 e3_r1) = (-2 : Int32) from ((if_neg hc22_3).trans ((if_pos hc29_6).trans ((if_pos hc49_8).trans ((if_neg hc103_10).trans (if_pos hc188_29)))))).symm, N0, rfl⟩
          · have pre31 : ∀ t, Steps p.tables e below (s₁.setTop (mkF m 195 #[.val (.ref r1), .val (.int (0 : Int32)), .val (.int i3), .val (.int (e0_r1 &&& (255 : Int32))), .val (.int (4 : Int32)), .val (.int (own_j3_113_0 e0_r1)), .val (.int (own_j3_130_0 e0_r1)), .val (.int (1 : Int32)), .val (.int (own_j3_167_0 i3 e1_r1))] [(.int (own_j3_130_0 e0_r1)), (.int (own_j3_167_0 i3 e1_r1))])) t → Steps p.tables e below (s₁.setTop (entryFrame m #[(.ref r1), (.int (0 : Int32)), (.int i3)] 9)) t := by
              intro t k
              refine pre28 _ ?_
              show Steps p.tables e below (s₁.setTop (mkF m 188 #[.val (.ref r1), .val (.int (0 : Int32)), .val (.int i3), .val (.int (e0_r1 &&& (255 : Int32))), .val (.int (4 : Int32)), .val (.int (own_j3_113_0 e0_r1)), .val (.int (own_j3_130_0 e0_r1)), .val (.int (1 : Int32)), .val (.int (own_j3_167_0 i3 e1_r1))] [(.int (own_j3_113_0 e0_r1)), (.int (own_j3_167_0 i3 e1_r1))])) _
              refine XS.icmpNo X0.here hx rfl (hb hby d3_188) rfl (flt hc188_29).1 ?_
              show Steps p.tables e below (s₁.setTop (mkF m 191 #[.val (.ref r1), .val (.int (0 : Int32)), .val (.int i3), .val (.int (e0_r1 &&& (255 : Int32))), .val (.int (4 : Int32)), .val (.int (own_j3_113_0 e0_r1)), .val (.int (own_j3_130_0 e0_r1)), .val (.int (1 : Int32)), .val (.int (own_j3_167_0 i3 e1_r1))] [])) _
              refine XS.iload X0.here hx rfl (hb hby d3_191) rfl ?_
              show Steps p.tables e below (s₁.setTop (mkF m 193 #[.val (.ref r1), .val (.int (0 : Int32)), .val (.int i3), .val (.int (e0_r1 &&& (255 : Int32))), .val (.int (4 : Int32)), .val (.int (own_j3_113_0 e0_r1)), .val (.int (own_j3_130_0 e0_r1)), .val (.int (1 : Int32)), .val (.int (own_j3_167_0 i3 e1_r1))] [(.int (own_j3_167_0 i3 e1_r1))])) _
              refine XS.iload X0.here hx rfl (hb hby d3_193) rfl ?_
              exact k
            by_cases hc195_32 : (own_j3_130_0 e0_r1) < (own_j3_167_0 i3 e1_r1)
            · have pre33 : ∀ t, Steps p.tables e below (s₁.setTop (mkF m 202 #[.val (.ref r1), .val (.int (0 : Int32)), .val (.int i3), .val (.int (e0_r1 &&& (255 : Int32))), .val (.int (4 : Int32)), .val (.int (own_j3_113_0 e0_r1)), .val (.int (own_j3_130_0 e0_r1)), .val (.int (1 : Int32)), .val (.int (own_j3_167_0 i3 e1_r1))] [(.int (-2 : Int32))])) t → Steps p.tables e below (s₁.setTop (entryFrame m #[(.ref r1), (.int (0 : Int32)), (.int i3)] 9)) t := by
                intro t k
                refine pre31 _ ?_
                show Steps p.tables e below (s₁.setTop (mkF m 195 #[.val (.ref r1), .val (.int (0 : Int32)), .val (.int i3), .val (.int (e0_r1 &&& (255 : Int32))), .val (.int (4 : Int32)), .val (.int (own_j3_113_0 e0_r1)), .val (.int (own_j3_130_0 e0_r1)), .val (.int (1 : Int32)), .val (.int (own_j3_167_0 i3 e1_r1))] [(.int (own_j3_130_0 e0_r1)), (.int (own_j3_167_0 i3 e1_r1))])) _
                refine XS.icmpNo X0.here hx rfl (hb hby d3_195) rfl (tlt hc195_32).2.2.2 ?_
                show Steps p.tables e below (s₁.setTop (mkF m 198 #[.val (.ref r1), .val (.int (0 : Int32)), .val (.int i3), .val (.int (e0_r1 &&& (255 : Int32))), .val (.int (4 : Int32)), .val (.int (own_j3_113_0 e0_r1)), .val (.int (own_j3_130_0 e0_r1)), .val (.int (1 : Int32)), .val (.int (own_j3_167_0 i3 e1_r1))] [])) _
                refine XS.iload X0.here hx rfl (hb hby d3_198) rfl ?_
                show Steps p.tables e below (s₁.setTop (mkF m 200 #[.val (.ref r1), .val (.int (0 : Int32)), .val (.int i3), .val (.int (e0_r1 &&& (255 : Int32))), .val (.int (4 : Int32)), .val (.int (own_j3_113_0 e0_r1)), .val (.int (own_j3_130_0 e0_r1)), .val (.int (1 : Int32)), .val (.int (own_j3_167_0 i3 e1_r1))] [(.int (1 : Int32))])) _
                refine XS.iconst X0.here hx rfl (hb hby d3_200) ?_
                show Steps p.tables e below (s₁.setTop (mkF m 201 #[.val (.ref r1), .val (.int (0 : Int32)), .val (.int i3), .val (.int (e0_r1 &&& (255 : Int32))), .val (.int (4 : Int32)), .val (.int (own_j3_113_0 e0_r1)), .val (.int (own_j3_130_0 e0_r1)), .val (.int (1 : Int32)), .val (.int (own_j3_167_0 i3 e1_r1))] [(.int (-1 : Int32)), (.int (1 : Int32))])) _
                refine XS.ixor X0.here hx rfl (hb hby d3_201) rfl ?_
                exact k
              obtain ⟨fs, hr, hrun, hended, hW, hsame⟩ := X0.leave (v := some (.int (-2 : Int32))) (fun h => by rw [Bd.returns] at h; cases h)
              refine ⟨_, _, pre33 _ ?_, hrun, hended, _, _, rfl, ?_, ⟨_, rfl⟩, hW, hsame.mono (by decide) (by decide)⟩
              · show Steps p.tables e below (s₁.setTop (mkF m 202 #[.val (.ref r1), .val (.int (0 : Int32)), .val (.int i3), .val (.int (e0_r1 &&& (255 : Int32))), .val (.int (4 : Int32)), .val (.int (own_j3_113_0 e0_r1)), .val (.int (own_j3_130_0 e0_r1)), .val (.int (1 : Int32)), .val (.int (own_j3_167_0 i3 e1_r1))] [(.int (-2 : Int32))])) _
                exact retI X0 hx Bd.returns (hb hby d3_202) hr
              · show Q3 Z r1 i3 e0_r1 e1_r1 e2_r1 e3_r1 e4_r1 e5_r1 k_r1 h0 n0 _ s₁.heap _
                rw [e0]
                exact ⟨congrArg (fun z => some (Value.int z)) (show (own_r3 i3 e0_r1 e1_r1 e2_r1 e3_r1) = (-2 : Int32) from ((if_neg hc22_3).trans ((if_pos hc29_6).trans ((if_pos hc49_8).trans ((if_neg hc103_10).trans ((if_neg hc188_29).trans (if_pos hc195_32))))))).symm, N0, rfl⟩
            · have pre34 : ∀ t, Steps p.tables e below (s₁.setTop (mkF m 167 #[.val (.ref r1), .val (.int (0 : Int32)), .val (.int i3), .val (.int (e0_r1 &&& (255 : Int32))), .val (.int (4 : Int32)), .val (.int (128 : Int32)), .val (.int (191 : Int32)), .val (.int (2 : Int32)), .val (.int (own_j3_167_0 i3 e1_r1))] [(.int i3), (.int (2 : Int32))])) t → Steps p.tables e below (s₁.setTop (entryFrame m #[(.ref r1), (.int (0 : Int32)), (.int i3)] 9)) t := by
                intro t k
                refine pre31 _ ?_
                show Steps p.tables e below (s₁.setTop (mkF m 195 #[.val (.ref r1), .val (.int (0 : Int32)), .val (.int i3), .val (.int (e0_r1 &&& (255 : Int32))), .val (.int (4 : Int32)), .val (.int (own_j3_113_0 e0_r1)), .val (.int (own_j3_130_0 e0_r1)), .val (.int (1 : Int32)), .val (.int (own_j3_167_0 i3 e1_r1))] [(.int (own_j3_130_0 e0_r1)), (.int (own_j3_167_0 i3 e1_r1))])) _
                refine XS.icmpYes X0.here hx rfl (pc0 := 195) (pc' := 203) rfl (hb hby d3_195) rfl (flt hc195_32).2.2.2 (by decide) (by decide) ?_
                show Steps p.tables e below (s₁.setTop (mkF m 203 #[.val (.ref r1), .val (.int (0 : Int32)), .val (.int i3), .val (.int (e0_r1 &&& (255 : Int32))), .val (.int (4 : Int32)), .val (.int (own_j3_113_0 e0_r1)), .val (.int (own_j3_130_0 e0_r1)), .val (.int (1 : Int32)), .val (.int (own_j3_167_0 i3 e1_r1))] [])) _
                refine XS.sipush X0.here hx rfl (hb hby d3_203) ?_
                show Steps p.tables e below (s₁.setTop (mkF m 206 #[.val (.ref r1), .val (.int (0 : Int32)), .val (.int i3), .val (.int (e0_r1 &&& (255 : Int32))), .val (.int (4 : Int32)), .val (.int (own_j3_113_0 e0_r1)), .val (.int (own_j3_130_0 e0_r1)), .val (.int (1 : Int32)), .val (.int (own_j3_167_0 i3 e1_r1))] [(.int (128 : Int32))])) _
                refine XS.istore X0.here hx rfl (hb hby d3_206) rfl (l' := #[.val (.ref r1), .val (.int (0 : Int32)), .val (.int i3), .val (.int (e0_r1 &&& (255 : Int32))), .val (.int (4 : Int32)), .val (.int (128 : Int32)), .val (.int (own_j3_130_0 e0_r1)), .val (.int (1 : Int32)), .val (.int (own_j3_167_0 i3 e1_r1))]) rfl ?_
                show Steps p.tables e below (s₁.setTop (mkF m 208 #[.val (.ref r1), .val (.int (0 : Int32)), .val (.int i3), .val (.int (e0_r1 &&& (255 : Int32))), .val (.int (4 : Int32)), .val (.int (128 : Int32)), .val (.int (own_j3_130_0 e0_r1)), .val (.int (1 : Int32)), .val (.int (own_j3_167_0 i3 e1_r1))] [])) _
                refine XS.sipush X0.here hx rfl (hb hby d3_208) ?_
                show Steps p.tables e below (s₁.setTop (mkF m 211 #[.val (.ref r1), .val (.int (0 : Int32)), .val (.int i3), .val (.int (e0_r1 &&& (255 : Int32))), .val (.int (4 : Int32)), .val (.int (128 : Int32)), .val (.int (own_j3_130_0 e0_r1)), .val (.int (1 : Int32)), .val (.int (own_j3_167_0 i3 e1_r1))] [(.int (191 : Int32))])) _
                refine XS.istore X0.here hx rfl (hb hby d3_211) rfl (l' := #[.val (.ref r1), .val (.int (0 : Int32)), .val (.int i3), .val (.int (e0_r1 &&& (255 : Int32))), .val (.int (4 : Int32)), .val (.int (128 : Int32)), .val (.int (191 : Int32)), .val (.int (1 : Int32)), .val (.int (own_j3_167_0 i3 e1_r1))]) rfl ?_
                show Steps p.tables e below (s₁.setTop (mkF m 213 #[.val (.ref r1), .val (.int (0 : Int32)), .val (.int i3), .val (.int (e0_r1 &&& (255 : Int32))), .val (.int (4 : Int32)), .val (.int (128 : Int32)), .val (.int (191 : Int32)), .val (.int (1 : Int32)), .val (.int (own_j3_167_0 i3 e1_r1))] [])) _
                refine XS.iinc X0.here hx rfl (hb hby d3_213) rfl (l' := #[.val (.ref r1), .val (.int (0 : Int32)), .val (.int i3), .val (.int (e0_r1 &&& (255 : Int32))), .val (.int (4 : Int32)), .val (.int (128 : Int32)), .val (.int (191 : Int32)), .val (.int (2 : Int32)), .val (.int (own_j3_167_0 i3 e1_r1))]) rfl ?_
                show Steps p.tables e below (s₁.setTop (mkF m 216 #[.val (.ref r1), .val (.int (0 : Int32)), .val (.int i3), .val (.int (e0_r1 &&& (255 : Int32))), .val (.int (4 : Int32)), .val (.int (128 : Int32)), .val (.int (191 : Int32)), .val (.int (2 : Int32)), .val (.int (own_j3_167_0 i3 e1_r1))] [])) _
                refine XS.goto X0.here hx rfl (pc0 := 216) (pc' := 155) rfl (hb hby d3_216) (by decide) (by decide) ?_
                show Steps p.tables e below (s₁.setTop (mkF m 155 #[.val (.ref r1), .val (.int (0 : Int32)), .val (.int i3), .val (.int (e0_r1 &&& (255 : Int32))), .val (.int (4 : Int32)), .val (.int (128 : Int32)), .val (.int (191 : Int32)), .val (.int (2 : Int32)), .val (.int (own_j3_167_0 i3 e1_r1))] [])) _
                refine XS.iload X0.here hx rfl (hb hby d3_155) rfl ?_
                show Steps p.tables e below (s₁.setTop (mkF m 157 #[.val (.ref r1), .val (.int (0 : Int32)), .val (.int i3), .val (.int (e0_r1 &&& (255 : Int32))), .val (.int (4 : Int32)), .val (.int (128 : Int32)), .val (.int (191 : Int32)), .val (.int (2 : Int32)), .val (.int (own_j3_167_0 i3 e1_r1))] [(.int (2 : Int32))])) _
                refine XS.iloadN X0.here hx rfl (hb hby d3_157) rfl ?_
                show Steps p.tables e below (s₁.setTop (mkF m 158 #[.val (.ref r1), .val (.int (0 : Int32)), .val (.int i3), .val (.int (e0_r1 &&& (255 : Int32))), .val (.int (4 : Int32)), .val (.int (128 : Int32)), .val (.int (191 : Int32)), .val (.int (2 : Int32)), .val (.int (own_j3_167_0 i3 e1_r1))] [(.int (0 : Int32)), (.int (2 : Int32))])) _
                refine XS.iload X0.here hx rfl (hb hby d3_158) rfl ?_
                show Steps p.tables e below (s₁.setTop (mkF m 160 #[.val (.ref r1), .val (.int (0 : Int32)), .val (.int i3), .val (.int (e0_r1 &&& (255 : Int32))), .val (.int (4 : Int32)), .val (.int (128 : Int32)), .val (.int (191 : Int32)), .val (.int (2 : Int32)), .val (.int (own_j3_167_0 i3 e1_r1))] [(.int (4 : Int32)), (.int (0 : Int32)), (.int (2 : Int32))])) _
                refine XS.iadd X0.here hx rfl (hb hby d3_160) rfl ?_
                show Steps p.tables e below (s₁.setTop (mkF m 161 #[.val (.ref r1), .val (.int (0 : Int32)), .val (.int i3), .val (.int (e0_r1 &&& (255 : Int32))), .val (.int (4 : Int32)), .val (.int (128 : Int32)), .val (.int (191 : Int32)), .val (.int (2 : Int32)), .val (.int (own_j3_167_0 i3 e1_r1))] [(.int (4 : Int32)), (.int (2 : Int32))])) _
                refine XS.icmpNo X0.here hx rfl (hb hby d3_161) rfl (tlt (by decide : (2 : Int32) < (4 : Int32))).2.1 ?_
                show Steps p.tables e below (s₁.setTop (mkF m 164 #[.val (.ref r1), .val (.int (0 : Int32)), .val (.int i3), .val (.int (e0_r1 &&& (255 : Int32))), .val (.int (4 : Int32)), .val (.int (128 : Int32)), .val (.int (191 : Int32)), .val (.int (2 : Int32)), .val (.int (own_j3_167_0 i3 e1_r1))] [])) _
                refine XS.iload X0.here hx rfl (hb hby d3_164) rfl ?_
                show Steps p.tables e below (s₁.setTop (mkF m 166 #[.val (.ref r1), .val (.int (0 : Int32)), .val (.int i3), .val (.int (e0_r1 &&& (255 : Int32))), .val (.int (4 : Int32)), .val (.int (128 : Int32)), .val (.int (191 : Int32)), .val (.int (2 : Int32)), .val (.int (own_j3_167_0 i3 e1_r1))] [(.int (2 : Int32))])) _
                refine XS.iloadN X0.here hx rfl (hb hby d3_166) rfl ?_
                exact k
              have pre39 : ∀ t, Steps p.tables e below (s₁.setTop (mkF m 182 #[.val (.ref r1), .val (.int (0 : Int32)), .val (.int i3), .val (.int (e0_r1 &&& (255 : Int32))), .val (.int (4 : Int32)), .val (.int (128 : Int32)), .val (.int (191 : Int32)), .val (.int (2 : Int32)), .val (.int (own_j3_167_0 i3 e1_r1))] [(.int (own_j3_167_0_v1 i3 e2_r1))])) t → Steps p.tables e below (s₁.setTop (entryFrame m #[(.ref r1), (.int (0 : Int32)), (.int i3)] 9)) t := by
                by_cases hc167_35 : (2 : Int32) < i3
                · obtain ⟨cl36, Ar36, Cq36, Sz36, Nn36, Hh36, Gg36⟩ := id V_r1
                  have hin36 : ¬ ((2 : Int32) < 0 ∨ cl36.slots.size ≤ ((2 : Int32)).toNatClampNeg) := inb_of Sz36 ⟨by decide, by decide⟩
                  have hat36 : cl36.slots[((2 : Int32)).toNatClampNeg]? = some (.int e2_r1) := Hh36.at hin36 rfl
                  have pre37 : ∀ t, Steps p.tables e below (s₁.setTop (mkF m 182 #[.val (.ref r1), .val (.int (0 : Int32)), .val (.int i3), .val (.int (e0_r1 &&& (255 : Int32))), .val (.int (4 : Int32)), .val (.int (128 : Int32)), .val (.int (191 : Int32)), .val (.int (2 : Int32)), .val (.int (own_j3_167_0 i3 e1_r1))] [(.int (e2_r1 &&& (255 : Int32)))])) t → Steps p.tables e below (s₁.setTop (entryFrame m #[(.ref r1), (.int (0 : Int32)), (.int i3)] 9)) t := by
                    intro t k
                    refine pre34 _ ?_
                    show Steps p.tables e below (s₁.setTop (mkF m 167 #[.val (.ref r1), .val (.int (0 : Int32)), .val (.int i3), .val (.int (e0_r1 &&& (255 : Int32))), .val (.int (4 : Int32)), .val (.int (128 : Int32)), .val (.int (191 : Int32)), .val (.int (2 : Int32)), .val (.int (own_j3_167_0 i3 e1_r1))] [(.int i3), (.int (2 : Int32))])) _
                    refine XS.icmpNo X0.here hx rfl (hb hby d3_167) rfl (tlt hc167_35).2.1 ?_
                    show Steps p.tables e below (s₁.setTop (mkF m 170 #[.val (.ref r1), .val (.int (0 : Int32)), .val (.int i3), .val (.int (e0_r1 &&& (255 : Int32))), .val (.int (4 : Int32)), .val (.int (128 : Int32)), .val (.int (191 : Int32)), .val (.int (2 : Int32)), .val (.int (own_j3_167_0 i3 e1_r1))] [])) _
                    refine XS.aloadN X0.here hx rfl (hb hby d3_170) rfl rfl ?_
                    show Steps p.tables e below (s₁.setTop (mkF m 171 #[.val (.ref r1), .val (.int (0 : Int32)), .val (.int i3), .val (.int (e0_r1 &&& (255 : Int32))), .val (.int (4 : Int32)), .val (.int (128 : Int32)), .val (.int (191 : Int32)), .val (.int (2 : Int32)), .val (.int (own_j3_167_0 i3 e1_r1))] [(.ref r1)])) _
                    refine XS.iload X0.here hx rfl (hb hby d3_171) rfl ?_
                    show Steps p.tables e below (s₁.setTop (mkF m 173 #[.val (.ref r1), .val (.int (0 : Int32)), .val (.int i3), .val (.int (e0_r1 &&& (255 : Int32))), .val (.int (4 : Int32)), .val (.int (128 : Int32)), .val (.int (191 : Int32)), .val (.int (2 : Int32)), .val (.int (own_j3_167_0 i3 e1_r1))] [(.int (2 : Int32)), (.ref r1)])) _
                    refine X0.baloadBytes hx (j := (2 : Int32)) (v := (.int e2_r1)) (by rw [e0]; exact Ar36.1) (State.isArrayOf_alike hZ.alike Ar36.2.1) Ar36.2.2 hin36 hat36 (g := (mkF m 173 #[.val (.ref r1), .val (.int (0 : Int32)), .val (.int i3), .val (.int (e0_r1 &&& (255 : Int32))), .val (.int (4 : Int32)), .val (.int (128 : Int32)), .val (.int (191 : Int32)), .val (.int (2 : Int32)), .val (.int (own_j3_167_0 i3 e1_r1))] [(.int (2 : Int32)), (.ref r1)])) rfl rfl (hb hby d3_173) _ ?_
                    show Steps p.tables e below (s₁.setTop (mkF m 174 #[.val (.ref r1), .val (.int (0 : Int32)), .val (.int i3), .val (.int (e0_r1 &&& (255 : Int32))), .val (.int (4 : Int32)), .val (.int (128 : Int32)), .val (.int (191 : Int32)), .val (.int (2 : Int32)), .val (.int (own_j3_167_0 i3 e1_r1))] [(.int e2_r1)])) _
                    refine XS.sipush X0.here hx rfl (hb hby d3_174) ?_
                    show Steps p.tables e below (s₁.setTop (mkF m 177 #[.val (.ref r1), .val (.int (0 : Int32)), .val (.int i3), .val (.int (e0_r1 &&& (255 : Int32))), .val (.int (4 : Int32)), .val (.int (128 : Int32)), .val (.int (191 : Int32)), .val (.int (2 : Int32)), .val (.int (own_j3_167_0 i3 e1_r1))] [(.int (255 : Int32)), (.int e2_r1)])) _
                    refine XS.iand X0.here hx rfl (hb hby d3_177) rfl ?_
                    show Steps p.tables e below (s₁.setTop (mkF m 178 #[.val (.ref r1), .val (.int (0 : Int32)), .val (.int i3), .val (.int (e0_r1 &&& (255 : Int32))), .val (.int (4 : Int32)), .val (.int (128 : Int32)), .val (.int (191 : Int32)), .val (.int (2 : Int32)), .val (.int (own_j3_167_0 i3 e1_r1))] [(.int (e2_r1 &&& (255 : Int32)))])) _
                    refine XS.goto X0.here hx rfl (pc0 := 178) (pc' := 182) rfl (hb hby d3_178) (by decide) (by decide) ?_
                    exact k
                  exact fun t k => pre37 t (by rw [show (own_j3_167_0_v1 i3 e2_r1) = (e2_r1 &&& (255 : Int32)) from (if_pos hc167_35)] at k; exact k)
                · have pre38 : ∀ t, Steps p.tables e below (s₁.setTop (mkF m 182 #[.val (.ref r1), .val (.int (0 : Int32)), .val (.int i3), .val (.int (e0_r1 &&& (255 : Int32))), .val (.int (4 : Int32)), .val (.int (128 : Int32)), .val (.int (191 : Int32)), .val (.int (2 : Int32)), .val (.int (own_j3_167_0 i3 e1_r1))] [(.int (-1 : Int32))])) t → Steps p.tables e below (s₁.setTop (entryFrame m #[(.ref r1), (.int (0 : Int32)), (.int i3)] 9)) t := by
                    intro t k
                    refine pre34 _ ?_
                    show Steps p.tables e below (s₁.setTop (mkF m 167 #[.val (.ref r1), .val (.int (0 : Int32)), .val (.int i3), .val (.int (e0_r1 &&& (255 : Int32))), .val (.int (4 : Int32)), .val (.int (128 : Int32)), .val (.int (191 : Int32)), .val (.int (2 : Int32)), .val (.int (own_j3_167_0 i3 e1_r1))] [(.int i3), (.int (2 : Int32))])) _
                    refine XS.icmpYes X0.here hx rfl (pc0 := 167) (pc' := 181) rfl (hb hby d3_167) rfl (flt hc167_35).2.1 (by decide) (by decide) ?_
                    show Steps p.tables e below (s₁.setTop (mkF m 181 #[.val (.ref r1), .val (.int (0 : Int32)), .val (.int i3), .val (.int (e0_r1 &&& (255 : Int32))), .val (.int (4 : Int32)), .val (.int (128 : Int32)), .val (.int (191 : Int32)), .val (.int (2 : Int32)), .val (.int (own_j3_167_0 i3 e1_r1))] [])) _
                    refine XS.iconst X0.here hx rfl (hb hby d3_181) ?_
                    exact k
                  exact fun t k => pre38 t (by rw [show (own_j3_167_0_v1 i3 e2_r1) = (-1 : Int32) from (if_neg hc167_35)] at k; exact k)
              have pre40 : ∀ t, Steps p.tables e below (s₁.setTop (mkF m 188 #[.val (.ref r1), .val (.int (0 : Int32)), .val (.int i3), .val (.int (e0_r1 &&& (255 : Int32))), .val (.int (4 : Int32)), .val (.int (128 : Int32)), .val (.int (191 : Int32)), .val (.int (2 : Int32)), .val (.int (own_j3_167_0_v1 i3 e2_r1))] [(.int (128 : Int32)), (.int (own_j3_167_0_v1 i3 e2_r1))])) t → Steps p.tables e below (s₁.setTop (entryFrame m #[(.ref r1), (.int (0 : Int32)), (.int i3)] 9)) t := by
                intro t k
                refine pre39 _ ?_
                show Steps p.tables e below (s₁.setTop (mkF m 182 #[.val (.ref r1), .val (.int (0 : Int32)), .val (.int i3), .val (.int (e0_r1 &&& (255 : Int32))), .val (.int (4 : Int32)), .val (.int (128 : Int32)), .val (.int (191 : Int32)), .val (.int (2 : Int32)), .val (.int (own_j3_167_0 i3 e1_r1))] [(.int (own_j3_167_0_v1 i3 e2_r1))])) _
                refine XS.istore X0.here hx rfl (hb hby d3_182) rfl (l' := #[.val (.ref r1), .val (.int (0 : Int32)), .val (.int i3), .val (.int (e0_r1 &&& (255 : Int32))), .val (.int (4 : Int32)), .val (.int (128 : Int32)), .val (.int (191 : Int32)), .val (.int (2 : Int32)), .val (.int (own_j3_167_0_v1 i3 e2_r1))]) rfl ?_
                show Steps p.tables e below (s₁.setTop (mkF m 184 #[.val (.ref r1), .val (.int (0 : Int32)), .val (.int i3), .val (.int (e0_r1 &&& (255 : Int32))), .val (.int (4 : Int32)), .val (.int (128 : Int32)), .val (.int (191 : Int32)), .val (.int (2 : Int32)), .val (.int (own_j3_167_0_v1 i3 e2_r1))] [])) _
                refine XS.iload X0.here hx rfl (hb hby d3_184) rfl ?_
                show Steps p.tables e below (s₁.setTop (mkF m 186 #[.val (.ref r1), .val (.int (0 : Int32)), .val (.int i3), .val (.int (e0_r1 &&& (255 : Int32))), .val (.int (4 : Int32)), .val (.int (128 : Int32)), .val (.int (191 : Int32)), .val (.int (2 : Int32)), .val (.int (own_j3_167_0_v1 i3 e2_r1))] [(.int (own_j3_167_0_v1 i3 e2_r1))])) _
                refine XS.iload X0.here hx rfl (hb hby d3_186) rfl ?_
                exact k
              by_cases hc188_41 : (own_j3_167_0_v1 i3 e2_r1) < (128 : Int32)
              · have pre42 : ∀ t, Steps p.tables e below (s₁.setTop (mkF m 202 #[.val (.ref r1), .val (.int (0 : Int32)), .val (.int i3), .val (.int (e0_r1 &&& (255 : Int32))), .val (.int (4 : Int32)), .val (.int (128 : Int32)), .val (.int (191 : Int32)), .val (.int (2 : Int32)), .val (.int (own_j3_167_0_v1 i3 e2_r1))] [(.int (-3 : Int32))])) t → Steps p.tables e below (s₁.setTop (entryFrame m #[(.ref r1), (.int (0 : Int32)), (.int i3)] 9)) t := by
                  intro t k
                  refine pre40 _ ?_
                  show Steps p.tables e below (s₁.setTop (mkF m 188 #[.val (.ref r1), .val (.int (0 : Int32)), .val (.int i3), .val (.int (e0_r1 &&& (255 : Int32))), .val (.int (4 : Int32)), .val (.int (128 : Int32)), .val (.int (191 : Int32)), .val (.int (2 : Int32)), .val (.int (own_j3_167_0_v1 i3 e2_r1))] [(.int (128 : Int32)), (.int (own_j3_167_0_v1 i3 e2_r1))])) _
                  refine XS.icmpYes X0.here hx rfl (pc0 := 188) (pc' := 198) rfl (hb hby d3_188) rfl (tlt hc188_41).1 (by decide) (by decide) ?_
                  show Steps p.tables e below (s₁.setTop (mkF m 198 #[.val (.ref r1), .val (.int (0 : Int32)), .val (.int i3), .val (.int (e0_r1 &&& (255 : Int32))), .val (.int (4 : Int32)), .val (.int (128 : Int32)), .val (.int (191 : Int32)), .val (.int (2 : Int32)), .val (.int (own_j3_167_0_v1 i3 e2_r1))] [])) _
                  refine XS.iload X0.here hx rfl (hb hby d3_198) rfl ?_
                  show Steps p.tables e below (s₁.setTop (mkF m 200 #[.val (.ref r1), .val (.int (0 : Int32)), .val (.int i3), .val (.int (e0_r1 &&& (255 : Int32))), .val (.int (4 : Int32)), .val (.int (128 : Int32)), .val (.int (191 : Int32)), .val (.int (2 : Int32)), .val (.int (own_j3_167_0_v1 i3 e2_r1))] [(.int (2 : Int32))])) _
                  refine XS.iconst X0.here hx rfl (hb hby d3_200) ?_
                  show Steps p.tables e below (s₁.setTop (mkF m 201 #[.val (.ref r1), .val (.int (0 : Int32)), .val (.int i3), .val (.int (e0_r1 &&& (255 : Int32))), .val (.int (4 : Int32)), .val (.int (128 : Int32)), .val (.int (191 : Int32)), .val (.int (2 : Int32)), .val (.int (own_j3_167_0_v1 i3 e2_r1))] [(.int (-1 : Int32)), (.int (2 : Int32))])) _
                  refine XS.ixor X0.here hx rfl (hb hby d3_201) rfl ?_
                  exact k
                obtain ⟨fs, hr, hrun, hended, hW, hsame⟩ := X0.leave (v := some (.int (-3 : Int32))) (fun h => by rw [Bd.returns] at h; cases h)
                refine ⟨_, _, pre42 _ ?_, hrun, hended, _, _, rfl, ?_, ⟨_, rfl⟩, hW, hsame.mono (by decide) (by decide)⟩
                · show Steps p.tables e below (s₁.setTop (mkF m 202 #[.val (.ref r1), .val (.int (0 : Int32)), .val (.int i3), .val (.int (e0_r1 &&& (255 : Int32))), .val (.int (4 : Int32)), .val (.int (128 : Int32)), .val (.int (191 : Int32)), .val (.int (2 : Int32)), .val (.int (own_j3_167_0_v1 i3 e2_r1))] [(.int (-3 : Int32))])) _
                  exact retI X0 hx Bd.returns (hb hby d3_202) hr
                · show Q3 Z r1 i3 e0_r1 e1_r1 e2_r1 e3_r1 e4_r1 e5_r1 k_r1 h0 n0 _ s₁.heap _
                  rw [e0]
                  exact ⟨congrArg (fun z => some (Value.int z)) (show (own_r3 i3 e0_r1 e1_r1 e2_r1 e3_r1) = (-3 : Int32) from ((if_neg hc22_3).trans ((if_pos hc29_6).trans ((if_pos hc49_8).trans ((if_neg hc103_10).trans ((if_neg hc188_29).trans ((if_neg hc195_32).trans (if_pos hc188_41)))))))).symm, N0, rfl⟩
              · have pre43 : ∀ t, Steps p.tables e below (s₁.setTop (mkF m 195 #[.val (.ref r1), .val (.int (0 : Int32)), .val (.int i3), .val (.int (e0_r1 &&& (255 : Int32))), .val (.int (4 : Int32)), .val (.int (128 : Int32)), .val (.int (191 : Int32)), .val (.int (2 : Int32)), .val (.int (own_j3_167_0_v1 i3 e2_r1))] [(.int (191 : Int32)), (.int (own_j3_167_0_v1 i3 e2_r1))])) t → Steps p.tables e below (s₁.setTop (entryFrame m #[(.ref r1), (.int (0 : Int32)), (.int i3)] 9)) t := by
                  intro t k
                  refine pre40 _ ?_
                  show Steps p.tables e below (s₁.setTop (mkF m 188 #[.val (.ref r1), .val (.int (0 : Int32)), .val (.int i3), .val (.int (e0_r1 &&& (255 : Int32))), .val (.int (4 : Int32)), .val (.int (128 : Int32)), .val (.int (191 : Int32)), .val (.int (2 : Int32)), .val (.int (own_j3_167_0_v1 i3 e2_r1))] [(.int (128 : Int32)), (.int (own_j3_167_0_v1 i3 e2_r1))])) _
                  refine XS.icmpNo X0.here hx rfl (hb hby d3_188) rfl (flt hc188_41).1 ?_
                  show Steps p.tables e below (s₁.setTop (mkF m 191 #[.val (.ref r1), .val (.int (0 : Int32)), .val (.int i3), .val (.int (e0_r1 &&& (255 : Int32))), .val (.int (4 : Int32)), .val (.int (128 : Int32)), .val (.int (191 : Int32)), .val (.int (2 : Int32)), .val (.int (own_j3_167_0_v1 i3 e2_r1))] [])) _
                  refine XS.iload X0.here hx rfl (hb hby d3_191) rfl ?_
                  show Steps p.tables e below (s₁.setTop (mkF m 193 #[.val (.ref r1), .val (.int (0 : Int32)), .val (.int i3), .val (.int (e0_r1 &&& (255 : Int32))), .val (.int (4 : Int32)), .val (.int (128 : Int32)), .val (.int (191 : Int32)), .val (.int (2 : Int32)), .val (.int (own_j3_167_0_v1 i3 e2_r1))] [(.int (own_j3_167_0_v1 i3 e2_r1))])) _
                  refine XS.iload X0.here hx rfl (hb hby d3_193) rfl ?_
                  exact k
                by_cases hc195_44 : (191 : Int32) < (own_j3_167_0_v1 i3 e2_r1)
                · have pre45 : ∀ t, Steps p.tables e below (s₁.setTop (mkF m 202 #[.val (.ref r1), .val (.int (0 : Int32)), .val (.int i3), .val (.int (e0_r1 &&& (255 : Int32))), .val (.int (4 : Int32)), .val (.int (128 : Int32)), .val (.int (191 : Int32)), .val (.int (2 : Int32)), .val (.int (own_j3_167_0_v1 i3 e2_r1))] [(.int (-3 : Int32))])) t → Steps p.tables e below (s₁.setTop (entryFrame m #[(.ref r1), (.int (0 : Int32)), (.int i3)] 9)) t := by
                    intro t k
                    refine pre43 _ ?_
                    show Steps p.tables e below (s₁.setTop (mkF m 195 #[.val (.ref r1), .val (.int (0 : Int32)), .val (.int i3), .val (.int (e0_r1 &&& (255 : Int32))), .val (.int (4 : Int32)), .val (.int (128 : Int32)), .val (.int (191 : Int32)), .val (.int (2 : Int32)), .val (.int (own_j3_167_0_v1 i3 e2_r1))] [(.int (191 : Int32)), (.int (own_j3_167_0_v1 i3 e2_r1))])) _
                    refine XS.icmpNo X0.here hx rfl (hb hby d3_195) rfl (tlt hc195_44).2.2.2 ?_
                    show Steps p.tables e below (s₁.setTop (mkF m 198 #[.val (.ref r1), .val (.int (0 : Int32)), .val (.int i3), .val (.int (e0_r1 &&& (255 : Int32))), .val (.int (4 : Int32)), .val (.int (128 : Int32)), .val (.int (191 : Int32)), .val (.int (2 : Int32)), .val (.int (own_j3_167_0_v1 i3 e2_r1))] [])) _
                    refine XS.iload X0.here hx rfl (hb hby d3_198) rfl ?_
                    show Steps p.tables e below (s₁.setTop (mkF m 200 #[.val (.ref r1), .val (.int (0 : Int32)), .val (.int i3), .val (.int (e0_r1 &&& (255 : Int32))), .val (.int (4 : Int32)), .val (.int (128 : Int32)), .val (.int (191 : Int32)), .val (.int (2 : Int32)), .val (.int (own_j3_167_0_v1 i3 e2_r1))] [(.int (2 : Int32))])) _
                    refine XS.iconst X0.here hx rfl (hb hby d3_200) ?_
                    show Steps p.tables e below (s₁.setTop (mkF m 201 #[.val (.ref r1), .val (.int (0 : Int32)), .val (.int i3), .val (.int (e0_r1 &&& (255 : Int32))), .val (.int (4 : Int32)), .val (.int (128 : Int32)), .val (.int (191 : Int32)), .val (.int (2 : Int32)), .val (.int (own_j3_167_0_v1 i3 e2_r1))] [(.int (-1 : Int32)), (.int (2 : Int32))])) _
                    refine XS.ixor X0.here hx rfl (hb hby d3_201) rfl ?_
                    exact k
                  obtain ⟨fs, hr, hrun, hended, hW, hsame⟩ := X0.leave (v := some (.int (-3 : Int32))) (fun h => by rw [Bd.returns] at h; cases h)
                  refine ⟨_, _, pre45 _ ?_, hrun, hended, _, _, rfl, ?_, ⟨_, rfl⟩, hW, hsame.mono (by decide) (by decide)⟩
                  · show Steps p.tables e below (s₁.setTop (mkF m 202 #[.val (.ref r1), .val (.int (0 : Int32)), .val (.int i3), .val (.int (e0_r1 &&& (255 : Int32))), .val (.int (4 : Int32)), .val (.int (128 : Int32)), .val (.int (191 : Int32)), .val (.int (2 : Int32)), .val (.int (own_j3_167_0_v1 i3 e2_r1))] [(.int (-3 : Int32))])) _
                    exact retI X0 hx Bd.returns (hb hby d3_202) hr
                  · show Q3 Z r1 i3 e0_r1 e1_r1 e2_r1 e3_r1 e4_r1 e5_r1 k_r1 h0 n0 _ s₁.heap _
                    rw [e0]
                    exact ⟨congrArg (fun z => some (Value.int z)) (show (own_r3 i3 e0_r1 e1_r1 e2_r1 e3_r1) = (-3 : Int32) from ((if_neg hc22_3).trans ((if_pos hc29_6).trans ((if_pos hc49_8).trans ((if_neg hc103_10).trans ((if_neg hc188_29).trans ((if_neg hc195_32).trans ((if_neg hc188_41).trans (if_pos hc195_44))))))))).symm, N0, rfl⟩
                · have pre46 : ∀ t, Steps p.tables e below (s₁.setTop (mkF m 167 #[.val (.ref r1), .val (.int (0 : Int32)), .val (.int i3), .val (.int (e0_r1 &&& (255 : Int32))), .val (.int (4 : Int32)), .val (.int (128 : Int32)), .val (.int (191 : Int32)), .val (.int (3 : Int32)), .val (.int (own_j3_167_0_v1 i3 e2_r1))] [(.int i3), (.int (3 : Int32))])) t → Steps p.tables e below (s₁.setTop (entryFrame m #[(.ref r1), (.int (0 : Int32)), (.int i3)] 9)) t := by
                    intro t k
                    refine pre43 _ ?_
                    show Steps p.tables e below (s₁.setTop (mkF m 195 #[.val (.ref r1), .val (.int (0 : Int32)), .val (.int i3), .val (.int (e0_r1 &&& (255 : Int32))), .val (.int (4 : Int32)), .val (.int (128 : Int32)), .val (.int (191 : Int32)), .val (.int (2 : Int32)), .val (.int (own_j3_167_0_v1 i3 e2_r1))] [(.int (191 : Int32)), (.int (own_j3_167_0_v1 i3 e2_r1))])) _
                    refine XS.icmpYes X0.here hx rfl (pc0 := 195) (pc' := 203) rfl (hb hby d3_195) rfl (flt hc195_44).2.2.2 (by decide) (by decide) ?_
                    show Steps p.tables e below (s₁.setTop (mkF m 203 #[.val (.ref r1), .val (.int (0 : Int32)), .val (.int i3), .val (.int (e0_r1 &&& (255 : Int32))), .val (.int (4 : Int32)), .val (.int (128 : Int32)), .val (.int (191 : Int32)), .val (.int (2 : Int32)), .val (.int (own_j3_167_0_v1 i3 e2_r1))] [])) _
                    refine XS.sipush X0.here hx rfl (hb hby d3_203) ?_
                    show Steps p.tables e below (s₁.setTop (mkF m 206 #[.val (.ref r1), .val (.int (0 : Int32)), .val (.int i3), .val (.int (e0_r1 &&& (255 : Int32))), .val (.int (4 : Int32)), .val (.int (128 : Int32)), .val (.int (191 : Int32)), .val (.int (2 : Int32)), .val (.int (own_j3_167_0_v1 i3 e2_r1))] [(.int (128 : Int32))])) _
                    refine XS.istore X0.here hx rfl (hb hby d3_206) rfl (l' := #[.val (.ref r1), .val (.int (0 : Int32)), .val (.int i3), .val (.int (e0_r1 &&& (255 : Int32))), .val (.int (4 : Int32)), .val (.int (128 : Int32)), .val (.int (191 : Int32)), .val (.int (2 : Int32)), .val (.int (own_j3_167_0_v1 i3 e2_r1))]) rfl ?_
                    show Steps p.tables e below (s₁.setTop (mkF m 208 #[.val (.ref r1), .val (.int (0 : Int32)), .val (.int i3), .val (.int (e0_r1 &&& (255 : Int32))), .val (.int (4 : Int32)), .val (.int (128 : Int32)), .val (.int (191 : Int32)), .val (.int (2 : Int32)), .val (.int (own_j3_167_0_v1 i3 e2_r1))] [])) _
                    refine XS.sipush X0.here hx rfl (hb hby d3_208) ?_
                    show Steps p.tables e below (s₁.setTop (mkF m 211 #[.val (.ref r1), .val (.int (0 : Int32)), .val (.int i3), .val (.int (e0_r1 &&& (255 : Int32))), .val (.int (4 : Int32)), .val (.int (128 : Int32)), .val (.int (191 : Int32)), .val (.int (2 : Int32)), .val (.int (own_j3_167_0_v1 i3 e2_r1))] [(.int (191 : Int32))])) _
                    refine XS.istore X0.here hx rfl (hb hby d3_211) rfl (l' := #[.val (.ref r1), .val (.int (0 : Int32)), .val (.int i3), .val (.int (e0_r1 &&& (255 : Int32))), .val (.int (4 : Int32)), .val (.int (128 : Int32)), .val (.int (191 : Int32)), .val (.int (2 : Int32)), .val (.int (own_j3_167_0_v1 i3 e2_r1))]) rfl ?_
                    show Steps p.tables e below (s₁.setTop (mkF m 213 #[.val (.ref r1), .val (.int (0 : Int32)), .val (.int i3), .val (.int (e0_r1 &&& (255 : Int32))), .val (.int (4 : Int32)), .val (.int (128 : Int32)), .val (.int (191 : Int32)), .val (.int (2 : Int32)), .val (.int (own_j3_167_0_v1 i3 e2_r1))] [])) _
                    refine XS.iinc X0.here hx rfl (hb hby d3_213) rfl (l' := #[.val (.ref r1), .val (.int (0 : Int32)), .val (.int i3), .val (.int (e0_r1 &&& (255 : Int32))), .val (.int (4 : Int32)), .val (.int (128 : Int32)), .val (.int (191 : Int32)), .val (.int (3 : Int32)), .val (.int (own_j3_167_0_v1 i3 e2_r1))]) rfl ?_
                    show Steps p.tables e below (s₁.setTop (mkF m 216 #[.val (.ref r1), .val (.int (0 : Int32)), .val (.int i3), .val (.int (e0_r1 &&& (255 : Int32))), .val (.int (4 : Int32)), .val (.int (128 : Int32)), .val (.int (191 : Int32)), .val (.int (3 : Int32)), .val (.int (own_j3_167_0_v1 i3 e2_r1))] [])) _
                    refine XS.goto X0.here hx rfl (pc0 := 216) (pc' := 155) rfl (hb hby d3_216) (by decide) (by decide) ?_
                    show Steps p.tables e below (s₁.setTop (mkF m 155 #[.val (.ref r1), .val (.int (0 : Int32)), .val (.int i3), .val (.int (e0_r1 &&& (255 : Int32))), .val (.int (4 : Int32)), .val (.int (128 : Int32)), .val (.int (191 : Int32)), .val (.int (3 : Int32)), .val (.int (own_j3_167_0_v1 i3 e2_r1))] [])) _
                    refine XS.iload X0.here hx rfl (hb hby d3_155) rfl ?_
                    show Steps p.tables e below (s₁.setTop (mkF m 157 #[.val (.ref r1), .val (.int (0 : Int32)), .val (.int i3), .val (.int (e0_r1 &&& (255 : Int32))), .val (.int (4 : Int32)), .val (.int (128 : Int32)), .val (.int (191 : Int32)), .val (.int (3 : Int32)), .val (.int (own_j3_167_0_v1 i3 e2_r1))] [(.int (3 : Int32))])) _
                    refine XS.iloadN X0.here hx rfl (hb hby d3_157) rfl ?_
                    show Steps p.tables e below (s₁.setTop (mkF m 158 #[.val (.ref r1), .val (.int (0 : Int32)), .val (.int i3), .val (.int (e0_r1 &&& (255 : Int32))), .val (.int (4 : Int32)), .val (.int (128 : Int32)), .val (.int (191 : Int32)), .val (.int (3 : Int32)), .val (.int (own_j3_167_0_v1 i3 e2_r1))] [(.int (0 : Int32)), (.int (3 : Int32))])) _
                    refine XS.iload X0.here hx rfl (hb hby d3_158) rfl ?_
                    show Steps p.tables e below (s₁.setTop (mkF m 160 #[.val (.ref r1), .val (.int (0 : Int32)), .val (.int i3), .val (.int (e0_r1 &&& (255 : Int32))), .val (.int (4 : Int32)), .val (.int (128 : Int32)), .val (.int (191 : Int32)), .val (.int (3 : Int32)), .val (.int (own_j3_167_0_v1 i3 e2_r1))] [(.int (4 : Int32)), (.int (0 : Int32)), (.int (3 : Int32))])) _
                    refine XS.iadd X0.here hx rfl (hb hby d3_160) rfl ?_
                    show Steps p.tables e below (s₁.setTop (mkF m 161 #[.val (.ref r1), .val (.int (0 : Int32)), .val (.int i3), .val (.int (e0_r1 &&& (255 : Int32))), .val (.int (4 : Int32)), .val (.int (128 : Int32)), .val (.int (191 : Int32)), .val (.int (3 : Int32)), .val (.int (own_j3_167_0_v1 i3 e2_r1))] [(.int (4 : Int32)), (.int (3 : Int32))])) _
                    refine XS.icmpNo X0.here hx rfl (hb hby d3_161) rfl (tlt (by decide : (3 : Int32) < (4 : Int32))).2.1 ?_
                    show Steps p.tables e below (s₁.setTop (mkF m 164 #[.val (.ref r1), .val (.int (0 : Int32)), .val (.int i3), .val (.int (e0_r1 &&& (255 : Int32))), .val (.int (4 : Int32)), .val (.int (128 : Int32)), .val (.int (191 : Int32)), .val (.int (3 : Int32)), .val (.int (own_j3_167_0_v1 i3 e2_r1))] [])) _
                    refine XS.iload X0.here hx rfl (hb hby d3_164) rfl ?_
                    show Steps p.tables e below (s₁.setTop (mkF m 166 #[.val (.ref r1), .val (.int (0 : Int32)), .val (.int i3), .val (.int (e0_r1 &&& (255 : Int32))), .val (.int (4 : Int32)), .val (.int (128 : Int32)), .val (.int (191 : Int32)), .val (.int (3 : Int32)), .val (.int (own_j3_167_0_v1 i3 e2_r1))] [(.int (3 : Int32))])) _
                    refine XS.iloadN X0.here hx rfl (hb hby d3_166) rfl ?_
                    exact k
                  have pre51 : ∀ t, Steps p.tables e below (s₁.setTop (mkF m 182 #[.val (.ref r1), .val (.int (0 : Int32)), .val (.int i3), .val (.int (e0_r1 &&& (255 : Int32))), .val (.int (4 : Int32)), .val (.int (128 : Int32)), .val (.int (191 : Int32)), .val (.int (3 : Int32)), .val (.int (own_j3_167_0_v1 i3 e2_r1))] [(.int (own_j3_167_0_v2 i3 e3_r1))])) t → Steps p.tables e below (s₁.setTop (entryFrame m #[(.ref r1), (.int (0 : Int32)), (.int i3)] 9)) t := by
                    by_cases hc167_47 : (3 : Int32) < i3
                    · obtain ⟨cl48, Ar48, Cq48, Sz48, Nn48, Hh48, Gg48⟩ := id V_r1
                      have hin48 : ¬ ((3 : Int32) < 0 ∨ cl48.slots.size ≤ ((3 : Int32)).toNatClampNeg) := inb_of Sz48 ⟨by decide, by decide⟩
                      have hat48 : cl48.slots[((3 : Int32)).toNatClampNeg]? = some (.int e3_r1) := Hh48.at hin48 rfl
                      have pre49 : ∀ t, Steps p.tables e below (s₁.setTop (mkF m 182 #[.val (.ref r1), .val (.int (0 : Int32)), .val (.int i3), .val (.int (e0_r1 &&& (255 : Int32))), .val (.int (4 : Int32)), .val (.int (128 : Int32)), .val (.int (191 : Int32)), .val (.int (3 : Int32)), .val (.int (own_j3_167_0_v1 i3 e2_r1))] [(.int (e3_r1 &&& (255 : Int32)))])) t → Steps p.tables e below (s₁.setTop (entryFrame m #[(.ref r1), (.int (0 : Int32)), (.int i3)] 9)) t := by
                        intro t k
                        refine pre46 _ ?_
                        show Steps p.tables e below (s₁.setTop (mkF m 167 #[.val (.ref r1), .val (.int (0 : Int32)), .val (.int i3), .val (.int (e0_r1 &&& (255 : Int32))), .val (.int (4 : Int32)), .val (.int (128 : Int32)), .val (.int (191 : Int32)), .val (.int (3 : Int32)), .val (.int (own_j3_167_0_v1 i3 e2_r1))] [(.int i3), (.int (3 : Int32))])) _
                        refine XS.icmpNo X0.here hx rfl (hb hby d3_167) rfl (tlt hc167_47).2.1 ?_
                        show Steps p.tables e below (s₁.setTop (mkF m 170 #[.val (.ref r1), .val (.int (0 : Int32)), .val (.int i3), .val (.int (e0_r1 &&& (255 : Int32))), .val (.int (4 : Int32)), .val (.int (128 : Int32)), .val (.int (191 : Int32)), .val (.int (3 : Int32)), .val (.int (own_j3_167_0_v1 i3 e2_r1))] [])) _
                        refine XS.aloadN X0.here hx rfl (hb hby d3_170) rfl rfl ?_
                        show Steps p.tables e below (s₁.setTop (mkF m 171 #[.val (.ref r1), .val (.int (0 : Int32)), .val (.int i3), .val (.int (e0_r1 &&& (255 : Int32))), .val (.int (4 : Int32)), .val (.int (128 : Int32)), .val (.int (191 : Int32)), .val (.int (3 : Int32)), .val (.int (own_j3_167_0_v1 i3 e2_r1))] [(.ref r1)])) _
                        refine XS.iload X0.here hx rfl (hb hby d3_171) rfl ?_
                        show Steps p.tables e below (s₁.setTop (mkF m 173 #[.val (.ref r1), .val (.int (0 : Int32)), .val (.int i3), .val (.int (e0_r1 &&& (255 : Int32))), .val (.int (4 : Int32)), .val (.int (128 : Int32)), .val (.int (191 : Int32)), .val (.int (3 : Int32)), .val (.int (own_j3_167_0_v1 i3 e2_r1))] [(.int (3 : Int32)), (.ref r1)])) _
                        refine X0.baloadBytes hx (j := (3 : Int32)) (v := (.int e3_r1)) (by rw [e0]; exact Ar48.1) (State.isArrayOf_alike hZ.alike Ar48.2.1) Ar48.2.2 hin48 hat48 (g := (mkF m 173 #[.val (.ref r1), .val (.int (0 : Int32)), .val (.int i3), .val (.int (e0_r1 &&& (255 : Int32))), .val (.int (4 : Int32)), .val (.int (128 : Int32)), .val (.int (191 : Int32)), .val (.int (3 : Int32)), .val (.int (own_j3_167_0_v1 i3 e2_r1))] [(.int (3 : Int32)), (.ref r1)])) rfl rfl (hb hby d3_173) _ ?_
                        show Steps p.tables e below (s₁.setTop (mkF m 174 #[.val (.ref r1), .val (.int (0 : Int32)), .val (.int i3), .val (.int (e0_r1 &&& (255 : Int32))), .val (.int (4 : Int32)), .val (.int (128 : Int32)), .val (.int (191 : Int32)), .val (.int (3 : Int32)), .val (.int (own_j3_167_0_v1 i3 e2_r1))] [(.int e3_r1)])) _
                        refine XS.sipush X0.here hx rfl (hb hby d3_174) ?_
                        show Steps p.tables e below (s₁.setTop (mkF m 177 #[.val (.ref r1), .val (.int (0 : Int32)), .val (.int i3), .val (.int (e0_r1 &&& (255 : Int32))), .val (.int (4 : Int32)), .val (.int (128 : Int32)), .val (.int (191 : Int32)), .val (.int (3 : Int32)), .val (.int (own_j3_167_0_v1 i3 e2_r1))] [(.int (255 : Int32)), (.int e3_r1)])) _
                        refine XS.iand X0.here hx rfl (hb hby d3_177) rfl ?_
                        show Steps p.tables e below (s₁.setTop (mkF m 178 #[.val (.ref r1), .val (.int (0 : Int32)), .val (.int i3), .val (.int (e0_r1 &&& (255 : Int32))), .val (.int (4 : Int32)), .val (.int (128 : Int32)), .val (.int (191 : Int32)), .val (.int (3 : Int32)), .val (.int (own_j3_167_0_v1 i3 e2_r1))] [(.int (e3_r1 &&& (255 : Int32)))])) _
                        refine XS.goto X0.here hx rfl (pc0 := 178) (pc' := 182) rfl (hb hby d3_178) (by decide) (by decide) ?_
                        exact k
                      exact fun t k => pre49 t (by rw [show (own_j3_167_0_v2 i3 e3_r1) = (e3_r1 &&& (255 : Int32)) from (if_pos hc167_47)] at k; exact k)
                    · have pre50 : ∀ t, Steps p.tables e below (s₁.setTop (mkF m 182 #[.val (.ref r1), .val (.int (0 : Int32)), .val (.int i3), .val (.int (e0_r1 &&& (255 : Int32))), .val (.int (4 : Int32)), .val (.int (128 : Int32)), .val (.int (191 : Int32)), .val (.int (3 : Int32)), .val (.int (own_j3_167_0_v1 i3 e2_r1))] [(.int (-1 : Int32))])) t → Steps p.tables e below (s₁.setTop (entryFrame m #[(.ref r1), (.int (0 : Int32)), (.int i3)] 9)) t := by
                        intro t k
                        refine pre46 _ ?_
                        show Steps p.tables e below (s₁.setTop (mkF m 167 #[.val (.ref r1), .val (.int (0 : Int32)), .val (.int i3), .val (.int (e0_r1 &&& (255 : Int32))), .val (.int (4 : Int32)), .val (.int (128 : Int32)), .val (.int (191 : Int32)), .val (.int (3 : Int32)), .val (.int (own_j3_167_0_v1 i3 e2_r1))] [(.int i3), (.int (3 : Int32))])) _
                        refine XS.icmpYes X0.here hx rfl (pc0 := 167) (pc' := 181) rfl (hb hby d3_167) rfl (flt hc167_47).2.1 (by decide) (by decide) ?_
                        show Steps p.tables e below (s₁.setTop (mkF m 181 #[.val (.ref r1), .val (.int (0 : Int32)), .val (.int i3), .val (.int (e0_r1 &&& (255 : Int32))), .val (.int (4 : Int32)), .val (.int (128 : Int32)), .val (.int (191 : Int32)), .val (.int (3 : Int32)), .val (.int (own_j3_167_0_v1 i3 e2_r1))] [])) _
                        refine XS.iconst X0.here hx rfl (hb hby d3_181) ?_
                        exact k
                      exact fun t k => pre50 t (by rw [show (own_j3_167_0_v2 i3 e3_r1) = (-1 : Int32) from (if_neg hc167_47)] at k; exact k)
                  have pre52 : ∀ t, Steps p.tables e below (s₁.setTop (mkF m 188 #[.val (.ref r1), .val (.int (0 : Int32)), .val (.int i3), .val (.int (e0_r1 &&& (255 : Int32))), .val (.int (4 : Int32)), .val (.int (128 : Int32)), .val (.int (191 : Int32)), .val (.int (3 : Int32)), .val (.int (own_j3_167_0_v2 i3 e3_r1))] [(.int (128 : Int32)), (.int (own_j3_167_0_v2 i3 e3_r1))])) t → Steps p.tables e below (s₁.setTop (entryFrame m #[(.ref r1), (.int (0 : Int32)), (.int i3)] 9)) t := by
                    intro t k
                    refine pre51 _ ?_
                    show Steps p.tables e below (s₁.setTop (mkF m 182 #[.val (.ref r1), .val (.int (0 : Int32)), .val (.int i3), .val (.int (e0_r1 &&& (255 : Int32))), .val (.int (4 : Int32)), .val (.int (128 : Int32)), .val (.int (191 : Int32)), .val (.int (3 : Int32)), .val (.int (own_j3_167_0_v1 i3 e2_r1))] [(.int (own_j3_167_0_v2 i3 e3_r1))])) _
                    refine XS.istore X0.here hx rfl (hb hby d3_182) rfl (l' := #[.val (.ref r1), .val (.int (0 : Int32)), .val (.int i3), .val (.int (e0_r1 &&& (255 : Int32))), .val (.int (4 : Int32)), .val (.int (128 : Int32)), .val (.int (191 : Int32)), .val (.int (3 : Int32)), .val (.int (own_j3_167_0_v2 i3 e3_r1))]) rfl ?_
                    show Steps p.tables e below (s₁.setTop (mkF m 184 #[.val (.ref r1), .val (.int (0 : Int32)), .val (.int i3), .val (.int (e0_r1 &&& (255 : Int32))), .val (.int (4 : Int32)), .val (.int (128 : Int32)), .val (.int (191 : Int32)), .val (.int (3 : Int32)), .val (.int (own_j3_167_0_v2 i3 e3_r1))] [])) _
                    refine XS.iload X0.here hx rfl (hb hby d3_184) rfl ?_
                    show Steps p.tables e below (s₁.setTop (mkF m 186 #[.val (.ref r1), .val (.int (0 : Int32)), .val (.int i3), .val (.int (e0_r1 &&& (255 : Int32))), .val (.int (4 : Int32)), .val (.int (128 : Int32)), .val (.int (191 : Int32)), .val (.int (3 : Int32)), .val (.int (own_j3_167_0_v2 i3 e3_r1))] [(.int (own_j3_167_0_v2 i3 e3_r1))])) _
                    refine XS.iload X0.here hx rfl (hb hby d3_186) rfl ?_
                    exact k
                  by_cases hc188_53 : (own_j3_167_0_v2 i3 e3_r1) < (128 : Int32)
                  · have pre54 : ∀ t, Steps p.tables e below (s₁.setTop (mkF m 202 #[.val (.ref r1), .val (.int (0 : Int32)), .val (.int i3), .val (.int (e0_r1 &&& (255 : Int32))), .val (.int (4 : Int32)), .val (.int (128 : Int32)), .val (.int (191 : Int32)), .val (.int (3 : Int32)), .val (.int (own_j3_167_0_v2 i3 e3_r1))] [(.int (-4 : Int32))])) t → Steps p.tables e below (s₁.setTop (entryFrame m #[(.ref r1), (.int (0 : Int32)), (.int i3)] 9)) t := by
                      intro t k
                      refine pre52 _ ?_
                      show Steps p.tables e below (s₁.setTop (mkF m 188 #[.val (.ref r1), .val (.int (0 : Int32)), .val (.int i3), .val (.int (e0_r1 &&& (255 : Int32))), .val (.int (4 : Int32)), .val (.int (128 : Int32)), .val (.int (191 : Int32)), .val (.int (3 : Int32)), .val (.int (own_j3_167_0_v2 i3 e3_r1))] [(.int (128 : Int32)), (.int (own_j3_167_0_v2 i3 e3_r1))])) _
                      refine XS.icmpYes X0.here hx rfl (pc0 := 188) (pc' := 198) rfl (hb hby d3_188) rfl (tlt hc188_53).1 (by decide) (by decide) ?_
                      show Steps p.tables e below (s₁.setTop (mkF m 198 #[.val (.ref r1), .val (.int (0 : Int32)), .val (.int i3), .val (.int (e0_r1 &&& (255 : Int32))), .val (.int (4 : Int32)), .val (.int (128 : Int32)), .val (.int (191 : Int32)), .val (.int (3 : Int32)), .val (.int (own_j3_167_0_v2 i3 e3_r1))] [])) _
                      refine XS.iload X0.here hx rfl (hb hby d3_198) rfl ?_
                      show Steps p.tables e below (s₁.setTop (mkF m 200 #[.val (.ref r1), .val (.int (0 : Int32)), .val (.int i3), .val (.int (e0_r1 &&& (255 : Int32))), .val (.int (4 : Int32)), .val (.int (128 : Int32)), .val (.int (191 : Int32)), .val (.int (3 : Int32)), .val (.int (own_j3_167_0_v2 i3 e3_r1))] [(.int (3 : Int32))])) _
                      refine XS.iconst X0.here hx rfl (hb hby d3_200) ?_
                      show Steps p.tables e below (s₁.setTop (mkF m 201 #[.val (.ref r1), .val (.int (0 : Int32)), .val (.int i3), .val (.int (e0_r1 &&& (255 : Int32))), .val (.int (4 : Int32)), .val (.int (128 : Int32)), .val (.int (191 : Int32)), .val (.int (3 : Int32)), .val (.int (own_j3_167_0_v2 i3 e3_r1))] [(.int (-1 : Int32)), (.int (3 : Int32))])) _
                      refine XS.ixor X0.here hx rfl (hb hby d3_201) rfl ?_
                      exact k
                    obtain ⟨fs, hr, hrun, hended, hW, hsame⟩ := X0.leave (v := some (.int (-4 : Int32))) (fun h => by rw [Bd.returns] at h; cases h)
                    refine ⟨_, _, pre54 _ ?_, hrun, hended, _, _, rfl, ?_, ⟨_, rfl⟩, hW, hsame.mono (by decide) (by decide)⟩
                    · show Steps p.tables e below (s₁.setTop (mkF m 202 #[.val (.ref r1), .val (.int (0 : Int32)), .val (.int i3), .val (.int (e0_r1 &&& (255 : Int32))), .val (.int (4 : Int32)), .val (.int (128 : Int32)), .val (.int (191 : Int32)), .val (.int (3 : Int32)), .val (.int (own_j3_167_0_v2 i3 e3_r1))] [(.int (-4 : Int32))])) _
                      exact retI X0 hx Bd.returns (hb hby d3_202) hr
                    · show Q3 Z r1 i3 e0_r1 e1_r1 e2_r1 e3_r1 e4_r1 e5_r1 k_r1 h0 n0 _ s₁.heap _
                      rw [e0]
                      exact ⟨congrArg (fun z => some (Value.int z)) (show (own_r3 i3 e0_r1 e1_r1 e2_r1 e3_r1) = (-4 : Int32) from ((if_neg hc22_3).trans ((if_pos hc29_6).trans ((if_pos hc49_8).trans ((if_neg hc103_10).trans ((if_neg hc188_29).trans ((if_neg hc195_32).trans ((if_neg hc188_41).trans ((if_neg hc195_44).trans (if_pos hc188_53)))))))))).symm, N0, rfl⟩
                  · have pre55 : ∀ t, Steps p.tables e below (s₁.setTop (mkF m 195 #[.val (.ref r1), .val (.int (0 : Int32)), .val (.int i3), .val (.int (e0_r1 &&& (255 : Int32))), .val (.int (4 : Int32)), .val (.int (128 : Int32)), .val (.int (191 : Int32)), .val (.int (3 : Int32)), .val (.int (own_j3_167_0_v2 i3 e3_r1))] [(.int (191 : Int32)), (.int (own_j3_167_0_v2 i3 e3_r1))])) t → Steps p.tables e below (s₁.setTop (entryFrame m #[(.ref r1), (.int (0 : Int32)), (.int i3)] 9)) t := by
                      intro t k
                      refine pre52 _ ?_
                      show Steps p.tables e below (s₁.setTop (mkF m 188 #[.val (.ref r1), .val (.int (0 : Int32)), .val (.int i3), .val (.int (e0_r1 &&& (255 : Int32))), .val (.int (4 : Int32)), .val (.int (128 : Int32)), .val (.int (191 : Int32)), .val (.int (3 : Int32)), .val (.int (own_j3_167_0_v2 i3 e3_r1))] [(.int (128 : Int32)), (.int (own_j3_167_0_v2 i3 e3_r1))])) _
                      refine XS.icmpNo X0.here hx rfl (hb hby d3_188) rfl (flt hc188_53).1 ?_
                      show Steps p.tables e below (s₁.setTop (mkF m 191 #[.val (.ref r1), .val (.int (0 : Int32)), .val (.int i3), .val (.int (e0_r1 &&& (255 : Int32))), .val (.int (4 : Int32)), .val (.int (128 : Int32)), .val (.int (191 : Int32)), .val (.int (3 : Int32)), .val (.int (own_j3_167_0_v2 i3 e3_r1))] [])) _
                      refine XS.iload X0.here hx rfl (hb hby d3_191) rfl ?_
                      show Steps p.tables e below (s₁.setTop (mkF m 193 #[.val (.ref r1), .val (.int (0 : Int32)), .val (.int i3), .val (.int (e0_r1 &&& (255 : Int32))), .val (.int (4 : Int32)), .val (.int (128 : Int32)), .val (.int (191 : Int32)), .val (.int (3 : Int32)), .val (.int (own_j3_167_0_v2 i3 e3_r1))] [(.int (own_j3_167_0_v2 i3 e3_r1))])) _
                      refine XS.iload X0.here hx rfl (hb hby d3_193) rfl ?_
                      exact k
                    by_cases hc195_56 : (191 : Int32) < (own_j3_167_0_v2 i3 e3_r1)
                    · have pre57 : ∀ t, Steps p.tables e below (s₁.setTop (mkF m 202 #[.val (.ref r1), .val (.int (0 : Int32)), .val (.int i3), .val (.int (e0_r1 &&& (255 : Int32))), .val (.int (4 : Int32)), .val (.int (128 : Int32)), .val (.int (191 : Int32)), .val (.int (3 : Int32)), .val (.int (own_j3_167_0_v2 i3 e3_r1))] [(.int (-4 : Int32))])) t → Steps p.tables e below (s₁.setTop (entryFrame m #[(.ref r1), (.int (0 : Int32)), (.int i3)] 9)) t := by
                        intro t k
                        refine pre55 _ ?_
                        show Steps p.tables e below (s₁.setTop (mkF m 195 #[.val (.ref r1), .val (.int (0 : Int32)), .val (.int i3), .val (.int (e0_r1 &&& (255 : Int32))), .val (.int (4 : Int32)), .val (.int (128 : Int32)), .val (.int (191 : Int32)), .val (.int (3 : Int32)), .val (.int (own_j3_167_0_v2 i3 e3_r1))] [(.int (191 : Int32)), (.int (own_j3_167_0_v2 i3 e3_r1))])) _
                        refine XS.icmpNo X0.here hx rfl (hb hby d3_195) rfl (tlt hc195_56).2.2.2 ?_
                        show Steps p.tables e below (s₁.setTop (mkF m 198 #[.val (.ref r1), .val (.int (0 : Int32)), .val (.int i3), .val (.int (e0_r1 &&& (255 : Int32))), .val (.int (4 : Int32)), .val (.int (128 : Int32)), .val (.int (191 : Int32)), .val (.int (3 : Int32)), .val (.int (own_j3_167_0_v2 i3 e3_r1))] [])) _
                        refine XS.iload X0.here hx rfl (hb hby d3_198) rfl ?_
                        show Steps p.tables e below (s₁.setTop (mkF m 200 #[.val (.ref r1), .val (.int (0 : Int32)), .val (.int i3), .val (.int (e0_r1 &&& (255 : Int32))), .val (.int (4 : Int32)), .val (.int (128 : Int32)), .val (.int (191 : Int32)), .val (.int (3 : Int32)), .val (.int (own_j3_167_0_v2 i3 e3_r1))] [(.int (3 : Int32))])) _
                        refine XS.iconst X0.here hx rfl (hb hby d3_200) ?_
                        show Steps p.tables e below (s₁.setTop (mkF m 201 #[.val (.ref r1), .val (.int (0 : Int32)), .val (.int i3), .val (.int (e0_r1 &&& (255 : Int32))), .val (.int (4 : Int32)), .val (.int (128 : Int32)), .val (.int (191 : Int32)), .val (.int (3 : Int32)), .val (.int (own_j3_167_0_v2 i3 e3_r1))] [(.int (-1 : Int32)), (.int (3 : Int32))])) _
                        refine XS.ixor X0.here hx rfl (hb hby d3_201) rfl ?_
                        exact k
                      obtain ⟨fs, hr, hrun, hended, hW, hsame⟩ := X0.leave (v := some (.int (-4 : Int32))) (fun h => by rw [Bd.returns] at h; cases h)
                      refine ⟨_, _, pre57 _ ?_, hrun, hended, _, _, rfl, ?_, ⟨_, rfl⟩, hW, hsame.mono (by decide) (by decide)⟩
                      · show Steps p.tables e below (s₁.setTop (mkF m 202 #[.val (.ref r1), .val (.int (0 : Int32)), .val (.int i3), .val (.int (e0_r1 &&& (255 : Int32))), .val (.int (4 : Int32)), .val (.int (128 : Int32)), .val (.int (191 : Int32)), .val (.int (3 : Int32)), .val (.int (own_j3_167_0_v2 i3 e3_r1))] [(.int (-4 : Int32))])) _
                        exact retI X0 hx Bd.returns (hb hby d3_202) hr
                      · show Q3 Z r1 i3 e0_r1 e1_r1 e2_r1 e3_r1 e4_r1 e5_r1 k_r1 h0 n0 _ s₁.heap _
                        rw [e0]
                        exact ⟨congrArg (fun z => some (Value.int z)) (show (own_r3 i3 e0_r1 e1_r1 e2_r1 e3_r1) = (-4 : Int32) from ((if_neg hc22_3).trans ((if_pos hc29_6).trans ((if_pos hc49_8).trans ((if_neg hc103_10).trans ((if_neg hc188_29).trans ((if_neg hc195_32).trans ((if_neg hc188_41).trans ((if_neg hc195_44).trans ((if_neg hc188_53).trans (if_pos hc195_56))))))))))).symm, N0, rfl⟩
                    · have pre58 : ∀ t, Steps p.tables e below (s₁.setTop (mkF m 223 #[.val (.ref r1), .val (.int (0 : Int32)), .val (.int i3), .val (.int (e0_r1 &&& (255 : Int32))), .val (.int (4 : Int32)), .val (.int (128 : Int32)), .val (.int (191 : Int32)), .val (.int (4 : Int32)), .val (.int (own_j3_167_0_v2 i3 e3_r1))] [(.int (4 : Int32))])) t → Steps p.tables e below (s₁.setTop (entryFrame m #[(.ref r1), (.int (0 : Int32)), (.int i3)] 9)) t := by
                        intro t k
                        refine pre55 _ ?_
                        show Steps p.tables e below (s₁.setTop (mkF m 195 #[.val (.ref r1), .val (.int (0 : Int32)), .val (.int i3), .val (.int (e0_r1 &&& (255 : Int32))), .val (.int (4 : Int32)), .val (.int (128 : Int32)), .val (.int (191 : Int32)), .val (.int (3 : Int32)), .val (.int (own_j3_167_0_v2 i3 e3_r1))] [(.int (191 : Int32)), (.int (own_j3_167_0_v2 i3 e3_r1))])) _
                        refine XS.icmpYes X0.here hx rfl (pc0 := 195) (pc' := 203) rfl (hb hby d3_195) rfl (flt hc195_56).2.2.2 (by decide) (by decide) ?_
                        show Steps p.tables e below (s₁.setTop (mkF m 203 #[.val (.ref r1), .val (.int (0 : Int32)), .val (.int i3), .val (.int (e0_r1 &&& (255 : Int32))), .val (.int (4 : Int32)), .val (.int (128 : Int32)), .val (.int (191 : Int32)), .val (.int (3 : Int32)), .val (.int (own_j3_167_0_v2 i3 e3_r1))] [])) _
                        refine XS.sipush X0.here hx rfl (hb hby d3_203) ?_
                        show Steps p.tables e below (s₁.setTop (mkF m 206 #[.val (.ref r1), .val (.int (0 : Int32)), .val (.int i3), .val (.int (e0_r1 &&& (255 : Int32))), .val (.int (4 : Int32)), .val (.int (128 : Int32)), .val (.int (191 : Int32)), .val (.int (3 : Int32)), .val (.int (own_j3_167_0_v2 i3 e3_r1))] [(.int (128 : Int32))])) _
                        refine XS.istore X0.here hx rfl (hb hby d3_206) rfl (l' := #[.val (.ref r1), .val (.int (0 : Int32)), .val (.int i3), .val (.int (e0_r1 &&& (255 : Int32))), .val (.int (4 : Int32)), .val (.int (128 : Int32)), .val (.int (191 : Int32)), .val (.int (3 : Int32)), .val (.int (own_j3_167_0_v2 i3 e3_r1))]) rfl ?_
                        show Steps p.tables e below (s₁.setTop (mkF m 208 #[.val (.ref r1), .val (.int (0 : Int32)), .val (.int i3), .val (.int (e0_r1 &&& (255 : Int32))), .val (.int (4 : Int32)), .val (.int (128 : Int32)), .val (.int (191 : Int32)), .val (.int (3 : Int32)), .val (.int (own_j3_167_0_v2 i3 e3_r1))] [])) _
                        refine XS.sipush X0.here hx rfl (hb hby d3_208) ?_
                        show Steps p.tables e below (s₁.setTop (mkF m 211 #[.val (.ref r1), .val (.int (0 : Int32)), .val (.int i3), .val (.int (e0_r1 &&& (255 : Int32))), .val (.int (4 : Int32)), .val (.int (128 : Int32)), .val (.int (191 : Int32)), .val (.int (3 : Int32)), .val (.int (own_j3_167_0_v2 i3 e3_r1))] [(.int (191 : Int32))])) _
                        refine XS.istore X0.here hx rfl (hb hby d3_211) rfl (l' := #[.val (.ref r1), .val (.int (0 : Int32)), .val (.int i3), .val (.int (e0_r1 &&& (255 : Int32))), .val (.int (4 : Int32)), .val (.int (128 : Int32)), .val (.int (191 : Int32)), .val (.int (3 : Int32)), .val (.int (own_j3_167_0_v2 i3 e3_r1))]) rfl ?_
                        show Steps p.tables e below (s₁.setTop (mkF m 213 #[.val (.ref r1), .val (.int (0 : Int32)), .val (.int i3), .val (.int (e0_r1 &&& (255 : Int32))), .val (.int (4 : Int32)), .val (.int (128 : Int32)), .val (.int (191 : Int32)), .val (.int (3 : Int32)), .val (.int (own_j3_167_0_v2 i3 e3_r1))] [])) _
                        refine XS.iinc X0.here hx rfl (hb hby d3_213) rfl (l' := #[.val (.ref r1), .val (.int (0 : Int32)), .val (.int i3), .val (.int (e0_r1 &&& (255 : Int32))), .val (.int (4 : Int32)), .val (.int (128 : Int32)), .val (.int (191 : Int32)), .val (.int (4 : Int32)), .val (.int (own_j3_167_0_v2 i3 e3_r1))]) rfl ?_
                        show Steps p.tables e below (s₁.setTop (mkF m 216 #[.val (.ref r1), .val (.int (0 : Int32)), .val (.int i3), .val (.int (e0_r1 &&& (255 : Int32))), .val (.int (4 : Int32)), .val (.int (128 : Int32)), .val (.int (191 : Int32)), .val (.int (4 : Int32)), .val (.int (own_j3_167_0_v2 i3 e3_r1))] [])) _
                        refine XS.goto X0.here hx rfl (pc0 := 216) (pc' := 155) rfl (hb hby d3_216) (by decide) (by decide) ?_
                        show Steps p.tables e below (s₁.setTop (mkF m 155 #[.val (.ref r1), .val (.int (0 : Int32)), .val (.int i3), .val (.int (e0_r1 &&& (255 : Int32))), .val (.int (4 : Int32)), .val (.int (128 : Int32)), .val (.int (191 : Int32)), .val (.int (4 : Int32)), .val (.int (own_j3_167_0_v2 i3 e3_r1))] [])) _
                        refine XS.iload X0.here hx rfl (hb hby d3_155) rfl ?_
                        show Steps p.tables e below (s₁.setTop (mkF m 157 #[.val (.ref r1), .val (.int (0 : Int32)), .val (.int i3), .val (.int (e0_r1 &&& (255 : Int32))), .val (.int (4 : Int32)), .val (.int (128 : Int32)), .val (.int (191 : Int32)), .val (.int (4 : Int32)), .val (.int (own_j3_167_0_v2 i3 e3_r1))] [(.int (4 : Int32))])) _
                        refine XS.iloadN X0.here hx rfl (hb hby d3_157) rfl ?_
                        show Steps p.tables e below (s₁.setTop (mkF m 158 #[.val (.ref r1), .val (.int (0 : Int32)), .val (.int i3), .val (.int (e0_r1 &&& (255 : Int32))), .val (.int (4 : Int32)), .val (.int (128 : Int32)), .val (.int (191 : Int32)), .val (.int (4 : Int32)), .val (.int (own_j3_167_0_v2 i3 e3_r1))] [(.int (0 : Int32)), (.int (4 : Int32))])) _
                        refine XS.iload X0.here hx rfl (hb hby d3_158) rfl ?_
                        show Steps p.tables e below (s₁.setTop (mkF m 160 #[.val (.ref r1), .val (.int (0 : Int32)), .val (.int i3), .val (.int (e0_r1 &&& (255 : Int32))), .val (.int (4 : Int32)), .val (.int (128 : Int32)), .val (.int (191 : Int32)), .val (.int (4 : Int32)), .val (.int (own_j3_167_0_v2 i3 e3_r1))] [(.int (4 : Int32)), (.int (0 : Int32)), (.int (4 : Int32))])) _
                        refine XS.iadd X0.here hx rfl (hb hby d3_160) rfl ?_
                        show Steps p.tables e below (s₁.setTop (mkF m 161 #[.val (.ref r1), .val (.int (0 : Int32)), .val (.int i3), .val (.int (e0_r1 &&& (255 : Int32))), .val (.int (4 : Int32)), .val (.int (128 : Int32)), .val (.int (191 : Int32)), .val (.int (4 : Int32)), .val (.int (own_j3_167_0_v2 i3 e3_r1))] [(.int (4 : Int32)), (.int (4 : Int32))])) _
                        refine XS.icmpYes X0.here hx rfl (pc0 := 161) (pc' := 219) rfl (hb hby d3_161) rfl (flt (by decide : ¬ ((4 : Int32) < (4 : Int32)))).2.1 (by decide) (by decide) ?_
                        show Steps p.tables e below (s₁.setTop (mkF m 219 #[.val (.ref r1), .val (.int (0 : Int32)), .val (.int i3), .val (.int (e0_r1 &&& (255 : Int32))), .val (.int (4 : Int32)), .val (.int (128 : Int32)), .val (.int (191 : Int32)), .val (.int (4 : Int32)), .val (.int (own_j3_167_0_v2 i3 e3_r1))] [])) _
                        refine XS.iloadN X0.here hx rfl (hb hby d3_219) rfl ?_
                        show Steps p.tables e below (s₁.setTop (mkF m 220 #[.val (.ref r1), .val (.int (0 : Int32)), .val (.int i3), .val (.int (e0_r1 &&& (255 : Int32))), .val (.int (4 : Int32)), .val (.int (128 : Int32)), .val (.int (191 : Int32)), .val (.int (4 : Int32)), .val (.int (own_j3_167_0_v2 i3 e3_r1))] [(.int (0 : Int32))])) _
                        refine XS.iload X0.here hx rfl (hb hby d3_220) rfl ?_
                        show Steps p.tables e below (s₁.setTop (mkF m 222 #[.val (.ref r1), .val (.int (0 : Int32)), .val (.int i3), .val (.int (e0_r1 &&& (255 : Int32))), .val (.int (4 : Int32)), .val (.int (128 : Int32)), .val (.int (191 : Int32)), .val (.int (4 : Int32)), .val (.int (own_j3_167_0_v2 i3 e3_r1))] [(.int (4 : Int32)), (.int (0 : Int32))])) _
                        refine XS.iadd X0.here hx rfl (hb hby d3_222) rfl ?_
                        exact k
                      obtain ⟨fs, hr, hrun, hended, hW, hsame⟩ := X0.leave (v := some (.int (4 : Int32))) (fun h => by rw [Bd.returns] at h; cases h)
                      refine ⟨_, _, pre58 _ ?_, hrun, hended, _, _, rfl, ?_, ⟨_, rfl⟩, hW, hsame.mono (by decide) (by decide)⟩
                      · show Steps p.tables e below (s₁.setTop (mkF m 223 #[.val (.ref r1), .val (.int (0 : Int32)), .val (.int i3), .val (.int (e0_r1 &&& (255 : Int32))), .val (.int (4 : Int32)), .val (.int (128 : Int32)), .val (.int (191 : Int32)), .val (.int (4 : Int32)), .val (.int (own_j3_167_0_v2 i3 e3_r1))] [(.int (4 : Int32))])) _
                        exact retI X0 hx Bd.returns (hb hby d3_223) hr
                      · show Q3 Z r1 i3 e0_r1 e1_r1 e2_r1 e3_r1 e4_r1 e5_r1 k_r1 h0 n0 _ s₁.heap _
                        rw [e0]
                        exact ⟨congrArg (fun z => some (Value.int z)) (show (own_r3 i3 e0_r1 e1_r1 e2_r1 e3_r1) = (4 : Int32) from ((if_neg hc22_3).trans ((if_pos hc29_6).trans ((if_pos hc49_8).trans ((if_neg hc103_10).trans ((if_neg hc188_29).trans ((if_neg hc195_32).trans ((if_neg hc188_41).trans ((if_neg hc195_44).trans ((if_neg hc188_53).trans (if_neg hc195_56))))))))))).symm, N0, rfl⟩
      · have pre59 : ∀ t, Steps p.tables e below (s₁.setTop (mkF m 59 #[.val (.ref r1), .val (.int (0 : Int32)), .val (.int i3), .val (.int (e0_r1 &&& (255 : Int32))), .val (.int (3 : Int32)), .val (.int (128 : Int32)), .val (.int (191 : Int32)), .unset, .unset] [(.int (224 : Int32)), (.int (e0_r1 &&& (255 : Int32)))])) t → Steps p.tables e below (s₁.setTop (entryFrame m #[(.ref r1), (.int (0 : Int32)), (.int i3)] 9)) t := by
          intro t k
          refine pre7 _ ?_
          show Steps p.tables e below (s₁.setTop (mkF m 49 #[.val (.ref r1), .val (.int (0 : Int32)), .val (.int i3), .val (.int (e0_r1 &&& (255 : Int32))), .unset, .val (.int (128 : Int32)), .val (.int (191 : Int32)), .unset, .unset] [(.int (239 : Int32)), (.int (e0_r1 &&& (255 : Int32)))])) _
          refine XS.icmpNo X0.here hx rfl (hb hby d3_49) rfl (flt hc49_8).2.2.1 ?_
          show Steps p.tables e below (s₁.setTop (mkF m 52 #[.val (.ref r1), .val (.int (0 : Int32)), .val (.int i3), .val (.int (e0_r1 &&& (255 : Int32))), .unset, .val (.int (128 : Int32)), .val (.int (191 : Int32)), .unset, .unset] [])) _
          refine XS.iconst X0.here hx rfl (hb hby d3_52) ?_
          show Steps p.tables e below (s₁.setTop (mkF m 53 #[.val (.ref r1), .val (.int (0 : Int32)), .val (.int i3), .val (.int (e0_r1 &&& (255 : Int32))), .unset, .val (.int (128 : Int32)), .val (.int (191 : Int32)), .unset, .unset] [(.int (3 : Int32))])) _
          refine XS.istore X0.here hx rfl (hb hby d3_53) rfl (l' := #[.val (.ref r1), .val (.int (0 : Int32)), .val (.int i3), .val (.int (e0_r1 &&& (255 : Int32))), .val (.int (3 : Int32)), .val (.int (128 : Int32)), .val (.int (191 : Int32)), .unset, .unset]) rfl ?_
          show Steps p.tables e below (s₁.setTop (mkF m 55 #[.val (.ref r1), .val (.int (0 : Int32)), .val (.int i3), .val (.int (e0_r1 &&& (255 : Int32))), .val (.int (3 : Int32)), .val (.int (128 : Int32)), .val (.int (191 : Int32)), .unset, .unset] [])) _
          refine XS.iloadN X0.here hx rfl (hb hby d3_55) rfl ?_
          show Steps p.tables e below (s₁.setTop (mkF m 56 #[.val (.ref r1), .val (.int (0 : Int32)), .val (.int i3), .val (.int (e0_r1 &&& (255 : Int32))), .val (.int (3 : Int32)), .val (.int (128 : Int32)), .val (.int (191 : Int32)), .unset, .unset] [(.int (e0_r1 &&& (255 : Int32)))])) _
          refine XS.sipush X0.here hx rfl (hb hby d3_56) ?_
          exact k
        have pre63 : ∀ t, Steps p.tables e below (s₁.setTop (mkF m 70 #[.val (.ref r1), .val (.int (0 : Int32)), .val (.int i3), .val (.int (e0_r1 &&& (255 : Int32))), .val (.int (3 : Int32)), .val (.int (128 : Int32)), .val (.int (191 : Int32)), .unset, .unset] [(.int (own_j3_59_0 e0_r1))])) t → Steps p.tables e below (s₁.setTop (entryFrame m #[(.ref r1), (.int (0 : Int32)), (.int i3)] 9)) t := by
          by_cases hc59_60 : (e0_r1 &&& (255 : Int32)) = (224 : Int32)
          · have pre61 : ∀ t, Steps p.tables e below (s₁.setTop (mkF m 70 #[.val (.ref r1), .val (.int (0 : Int32)), .val (.int i3), .val (.int (e0_r1 &&& (255 : Int32))), .val (.int (3 : Int32)), .val (.int (128 : Int32)), .val (.int (191 : Int32)), .unset, .unset] [(.int (160 : Int32))])) t → Steps p.tables e below (s₁.setTop (entryFrame m #[(.ref r1), (.int (0 : Int32)), (.int i3)] 9)) t := by
              intro t k
              refine pre59 _ ?_
              show Steps p.tables e below (s₁.setTop (mkF m 59 #[.val (.ref r1), .val (.int (0 : Int32)), .val (.int i3), .val (.int (e0_r1 &&& (255 : Int32))), .val (.int (3 : Int32)), .val (.int (128 : Int32)), .val (.int (191 : Int32)), .unset, .unset] [(.int (224 : Int32)), (.int (e0_r1 &&& (255 : Int32)))])) _
              refine XS.icmpNo X0.here hx rfl (hb hby d3_59) rfl (teq hc59_60).2 ?_
              show Steps p.tables e below (s₁.setTop (mkF m 62 #[.val (.ref r1), .val (.int (0 : Int32)), .val (.int i3), .val (.int (e0_r1 &&& (255 : Int32))), .val (.int (3 : Int32)), .val (.int (128 : Int32)), .val (.int (191 : Int32)), .unset, .unset] [])) _
              refine XS.sipush X0.here hx rfl (hb hby d3_62) ?_
              show Steps p.tables e below (s₁.setTop (mkF m 65 #[.val (.ref r1), .val (.int (0 : Int32)), .val (.int i3), .val (.int (e0_r1 &&& (255 : Int32))), .val (.int (3 : Int32)), .val (.int (128 : Int32)), .val (.int (191 : Int32)), .unset, .unset] [(.int (160 : Int32))])) _
              refine XS.goto X0.here hx rfl (pc0 := 65) (pc' := 70) rfl (hb hby d3_65) (by decide) (by decide) ?_
              exact k
            exact fun t k => pre61 t (by rw [show (own_j3_59_0 e0_r1) = (160 : Int32) from (if_pos hc59_60)] at k; exact k)
          · have pre62 : ∀ t, Steps p.tables e below (s₁.setTop (mkF m 70 #[.val (.ref r1), .val (.int (0 : Int32)), .val (.int i3), .val (.int (e0_r1 &&& (255 : Int32))), .val (.int (3 : Int32)), .val (.int (128 : Int32)), .val (.int (191 : Int32)), .unset, .unset] [(.int (128 : Int32))])) t → Steps p.tables e below (s₁.setTop (entryFrame m #[(.ref r1), (.int (0 : Int32)), (.int i3)] 9)) t := by
              intro t k
              refine pre59 _ ?_
              show Steps p.tables e below (s₁.setTop (mkF m 59 #[.val (.ref r1), .val (.int (0 : Int32)), .val (.int i3), .val (.int (e0_r1 &&& (255 : Int32))), .val (.int (3 : Int32)), .val (.int (128 : Int32)), .val (.int (191 : Int32)), .unset, .unset] [(.int (224 : Int32)), (.int (e0_r1 &&& (255 : Int32)))])) _
              refine XS.icmpYes X0.here hx rfl (pc0 := 59) (pc' := 68) rfl (hb hby d3_59) rfl (feq hc59_60).2 (by decide) (by decide) ?_
              show Steps p.tables e below (s₁.setTop (mkF m 68 #[.val (.ref r1), .val (.int (0 : Int32)), .val (.int i3), .val (.int (e0_r1 &&& (255 : Int32))), .val (.int (3 : Int32)), .val (.int (128 : Int32)), .val (.int (191 : Int32)), .unset, .unset] [])) _
              refine XS.iload X0.here hx rfl (hb hby d3_68) rfl ?_
              exact k
            exact fun t k => pre62 t (by rw [show (own_j3_59_0 e0_r1) = (128 : Int32) from (if_neg hc59_60)] at k; exact k)
        have pre64 : ∀ t, Steps p.tables e below (s₁.setTop (mkF m 76 #[.val (.ref r1), .val (.int (0 : Int32)), .val (.int i3), .val (.int (e0_r1 &&& (255 : Int32))), .val (.int (3 : Int32)), .val (.int (own_j3_59_0 e0_r1)), .val (.int (191 : Int32)), .unset, .unset] [(.int (237 : Int32)), (.int (e0_r1 &&& (255 : Int32)))])) t → Steps p.tables e below (s₁.setTop (entryFrame m #[(.ref r1), (.int (0 : Int32)), (.int i3)] 9)) t := by
          intro t k
          refine pre63 _ ?_
          show Steps p.tables e below (s₁.setTop (mkF m 70 #[.val (.ref r1), .val (.int (0 : Int32)), .val (.int i3), .val (.int (e0_r1 &&& (255 : Int32))), .val (.int (3 : Int32)), .val (.int (128 : Int32)), .val (.int (191 : Int32)), .unset, .unset] [(.int (own_j3_59_0 e0_r1))])) _
          refine XS.istore X0.here hx rfl (hb hby d3_70) rfl (l' := #[.val (.ref r1), .val (.int (0 : Int32)), .val (.int i3), .val (.int (e0_r1 &&& (255 : Int32))), .val (.int (3 : Int32)), .val (.int (own_j3_59_0 e0_r1)), .val (.int (191 : Int32)), .unset, .unset]) rfl ?_
          show Steps p.tables e below (s₁.setTop (mkF m 72 #[.val (.ref r1), .val (.int (0 : Int32)), .val (.int i3), .val (.int (e0_r1 &&& (255 : Int32))), .val (.int (3 : Int32)), .val (.int (own_j3_59_0 e0_r1)), .val (.int (191 : Int32)), .unset, .unset] [])) _
          refine XS.iloadN X0.here hx rfl (hb hby d3_72) rfl ?_
          show Steps p.tables e below (s₁.setTop (mkF m 73 #[.val (.ref r1), .val (.int (0 : Int32)), .val (.int i3), .val (.int (e0_r1 &&& (255 : Int32))), .val (.int (3 : Int32)), .val (.int (own_j3_59_0 e0_r1)), .val (.int (191 : Int32)), .unset, .unset] [(.int (e0_r1 &&& (255 : Int32)))])) _
          refine XS.sipush X0.here hx rfl (hb hby d3_73) ?_
          exact k
        have pre68 : ∀ t, Steps p.tables e below (s₁.setTop (mkF m 87 #[.val (.ref r1), .val (.int (0 : Int32)), .val (.int i3), .val (.int (e0_r1 &&& (255 : Int32))), .val (.int (3 : Int32)), .val (.int (own_j3_59_0 e0_r1)), .val (.int (191 : Int32)), .unset, .unset] [(.int (own_j3_76_0 e0_r1))])) t → Steps p.tables e below (s₁.setTop (entryFrame m #[(.ref r1), (.int (0 : Int32)), (.int i3)] 9)) t := by
          by_cases hc76_65 : (e0_r1 &&& (255 : Int32)) = (237 : Int32)
          · have pre66 : ∀ t, Steps p.tables e below (s₁.setTop (mkF m 87 #[.val (.ref r1), .val (.int (0 : Int32)), .val (.int i3), .val (.int (e0_r1 &&& (255 : Int32))), .val (.int (3 : Int32)), .val (.int (own_j3_59_0 e0_r1)), .val (.int (191 : Int32)), .unset, .unset] [(.int (159 : Int32))])) t → Steps p.tables e below (s₁.setTop (entryFrame m #[(.ref r1), (.int (0 : Int32)), (.int i3)] 9)) t := by
              intro t k
              refine pre64 _ ?_
              show Steps p.tables e below (s₁.setTop (mkF m 76 #[.val (.ref r1), .val (.int (0 : Int32)), .val (.int i3), .val (.int (e0_r1 &&& (255 : Int32))), .val (.int (3 : Int32)), .val (.int (own_j3_59_0 e0_r1)), .val (.int (191 : Int32)), .unset, .unset] [(.int (237 : Int32)), (.int (e0_r1 &&& (255 : Int32)))])) _
              refine XS.icmpNo X0.here hx rfl (hb hby d3_76) rfl (teq hc76_65).2 ?_
              show Steps p.tables e below (s₁.setTop (mkF m 79 #[.val (.ref r1), .val (.int (0 : Int32)), .val (.int i3), .val (.int (e0_r1 &&& (255 : Int32))), .val (.int (3 : Int32)), .val (.int (own_j3_59_0 e0_r1)), .val (.int (191 : Int32)), .unset, .unset] [])) _
              refine XS.sipush X0.here hx rfl (hb hby d3_79) ?_
              show Steps p.tables e below (s₁.setTop (mkF m 82 #[.val (.ref r1), .val (.int (0 : Int32)), .val (.int i3), .val (.int (e0_r1 &&& (255 : Int32))), .val (.int (3 : Int32)), .val (.int (own_j3_59_0 e0_r1)), .val (.int (191 : Int32)), .unset, .unset] [(.int (159 : Int32))])) _
              refine XS.goto X0.here hx rfl (pc0 := 82) (pc' := 87) rfl (hb hby d3_82) (by decide) (by decide) ?_
              exact k
            exact fun t k => pre66 t (by rw [show (own_j3_76_0 e0_r1) = (159 : Int32) from (if_pos hc76_65)] at k; exact k)
          · have pre67 : ∀ t, Steps p.tables e below (s₁.setTop (mkF m 87 #[.val (.ref r1), .val (.int (0 : Int32)), .val (.int i3), .val (.int (e0_r1 &&& (255 : Int32))), .val (.int (3 : Int32)), .val (.int (own_j3_59_0 e0_r1)), .val (.int (191 : Int32)), .unset, .unset] [(.int (191 : Int32))])) t → Steps p.tables e below (s₁.setTop (entryFrame m #[(.ref r1), (.int (0 : Int32)), (.int i3)] 9)) t := by
              intro t k
              refine pre64 _ ?_
              show Steps p.tables e below (s₁.setTop (mkF m 76 #[.val (.ref r1), .val (.int (0 : Int32)), .val (.int i3), .val (.int (e0_r1 &&& (255 : Int32))), .val (.int (3 : Int32)), .val (.int (own_j3_59_0 e0_r1)), .val (.int (191 : Int32)), .unset, .unset] [(.int (237 : Int32)), (.int (e0_r1 &&& (255 : Int32)))])) _
              refine XS.icmpYes X0.here hx rfl (pc0 := 76) (pc' := 85) rfl (hb hby d3_76) rfl (feq hc76_65).2 (by decide) (by decide) ?_
              show Steps p.tables e below (s₁.setTop (mkF m 85 #[.val (.ref r1), .val (.int (0 : Int32)), .val (.int i3), .val (.int (e0_r1 &&& (255 : Int32))), .val (.int (3 : Int32)), .val (.int (own_j3_59_0 e0_r1)), .val (.int (191 : Int32)), .unset, .unset] [])) _
              refine XS.iload X0.here hx rfl (hb hby d3_85) rfl ?_
              exact k
            exact fun t k => pre67 t (by rw [show (own_j3_76_0 e0_r1) = (191 : Int32) from (if_neg hc76_65)] at k; exact k)
        have pre69 : ∀ t, Steps p.tables e below (s₁.setTop (mkF m 167 #[.val (.ref r1), .val (.int (0 : Int32)), .val (.int i3), .val (.int (e0_r1 &&& (255 : Int32))), .val (.int (3 : Int32)), .val (.int (own_j3_59_0 e0_r1)), .val (.int (own_j3_76_0 e0_r1)), .val (.int (1 : Int32)), .unset] [(.int i3), (.int (1 : Int32))])) t → Steps p.tables e below (s₁.setTop (entryFrame m #[(.ref r1), (.int (0 : Int32)), (.int i3)] 9)) t := by
          intro t k
          refine pre68 _ ?_
          show Steps p.tables e below (s₁.setTop (mkF m 87 #[.val (.ref r1), .val (.int (0 : Int32)), .val (.int i3), .val (.int (e0_r1 &&& (255 : Int32))), .val (.int (3 : Int32)), .val (.int (own_j3_59_0 e0_r1)), .val (.int (191 : Int32)), .unset, .unset] [(.int (own_j3_76_0 e0_r1))])) _
          refine XS.istore X0.here hx rfl (hb hby d3_87) rfl (l' := #[.val (.ref r1), .val (.int (0 : Int32)), .val (.int i3), .val (.int (e0_r1 &&& (255 : Int32))), .val (.int (3 : Int32)), .val (.int (own_j3_59_0 e0_r1)), .val (.int (own_j3_76_0 e0_r1)), .unset, .unset]) rfl ?_
          show Steps p.tables e below (s₁.setTop (mkF m 89 #[.val (.ref r1), .val (.int (0 : Int32)), .val (.int i3), .val (.int (e0_r1 &&& (255 : Int32))), .val (.int (3 : Int32)), .val (.int (own_j3_59_0 e0_r1)), .val (.int (own_j3_76_0 e0_r1)), .unset, .unset] [])) _
          refine XS.goto X0.here hx rfl (pc0 := 89) (pc' := 150) rfl (hb hby d3_89) (by decide) (by decide) ?_
          show Steps p.tables e below (s₁.setTop (mkF m 150 #[.val (.ref r1), .val (.int (0 : Int32)), .val (.int i3), .val (.int (e0_r1 &&& (255 : Int32))), .val (.int (3 : Int32)), .val (.int (own_j3_59_0 e0_r1)), .val (.int (own_j3_76_0 e0_r1)), .unset, .unset] [])) _
          refine XS.iloadN X0.here hx rfl (hb hby d3_150) rfl ?_
          show Steps p.tables e below (s₁.setTop (mkF m 151 #[.val (.ref r1), .val (.int (0 : Int32)), .val (.int i3), .val (.int (e0_r1 &&& (255 : Int32))), .val (.int (3 : Int32)), .val (.int (own_j3_59_0 e0_r1)), .val (.int (own_j3_76_0 e0_r1)), .unset, .unset] [(.int (0 : Int32))])) _
          refine XS.iconst X0.here hx rfl (hb hby d3_151) ?_
          show Steps p.tables e below (s₁.setTop (mkF m 152 #[.val (.ref r1), .val (.int (0 : Int32)), .val (.int i3), .val (.int (e0_r1 &&& (255 : Int32))), .val (.int (3 : Int32)), .val (.int (own_j3_59_0 e0_r1)), .val (.int (own_j3_76_0 e0_r1)), .unset, .unset] [(.int (1 : Int32)), (.int (0 : Int32))])) _
          refine XS.iadd X0.here hx rfl (hb hby d3_152) rfl ?_
          show Steps p.tables e below (s₁.setTop (mkF m 153 #[.val (.ref r1), .val (.int (0 : Int32)), .val (.int i3), .val (.int (e0_r1 &&& (255 : Int32))), .val (.int (3 : Int32)), .val (.int (own_j3_59_0 e0_r1)), .val (.int (own_j3_76_0 e0_r1)), .unset, .unset] [(.int (1 : Int32))])) _
          refine XS.istore X0.here hx rfl (hb hby d3_153) rfl (l' := #[.val (.ref r1), .val (.int (0 : Int32)), .val (.int i3), .val (.int (e0_r1 &&& (255 : Int32))), .val (.int (3 : Int32)), .val (.int (own_j3_59_0 e0_r1)), .val (.int (own_j3_76_0 e0_r1)), .val (.int (1 : Int32)), .unset]) rfl ?_
          show Steps p.tables e below (s₁.setTop (mkF m 155 #[.val (.ref r1), .val (.int (0 : Int32)), .val (.int i3), .val (.int (e0_r1 &&& (255 : Int32))), .val (.int (3 : Int32)), .val (.int (own_j3_59_0 e0_r1)), .val (.int (own_j3_76_0 e0_r1)), .val (.int (1 : Int32)), .unset] [])) _
          refine XS.iload X0.here hx rfl (hb hby d3_155) rfl ?_
          show Steps p.tables e below (s₁.setTop (mkF m 157 #[.val (.ref r1), .val (.int (0 : Int32)), .val (.int i3), .val (.int (e0_r1 &&& (255 : Int32))), .val (.int (3 : Int32)), .val (.int (own_j3_59_0 e0_r1)), .val (.int (own_j3_76_0 e0_r1)), .val (.int (1 : Int32)), .unset] [(.int (1 : Int32))])) _
          refine XS.iloadN X0.here hx rfl (hb hby d3_157) rfl ?_
          show Steps p.tables e below (s₁.setTop (mkF m 158 #[.val (.ref r1), .val (.int (0 : Int32)), .val (.int i3), .val (.int (e0_r1 &&& (255 : Int32))), .val (.int (3 : Int32)), .val (.int (own_j3_59_0 e0_r1)), .val (.int (own_j3_76_0 e0_r1)), .val (.int (1 : Int32)), .unset] [(.int (0 : Int32)), (.int (1 : Int32))])) _
          refine XS.iload X0.here hx rfl (hb hby d3_158) rfl ?_
          show Steps p.tables e below (s₁.setTop (mkF m 160 #[.val (.ref r1), .val (.int (0 : Int32)), .val (.int i3), .val (.int (e0_r1 &&& (255 : Int32))), .val (.int (3 : Int32)), .val (.int (own_j3_59_0 e0_r1)), .val (.int (own_j3_76_0 e0_r1)), .val (.int (1 : Int32)), .unset] [(.int (3 : Int32)), (.int (0 : Int32)), (.int (1 : Int32))])) _
          refine XS.iadd X0.here hx rfl (hb hby d3_160) rfl ?_
          show Steps p.tables e below (s₁.setTop (mkF m 161 #[.val (.ref r1), .val (.int (0 : Int32)), .val (.int i3), .val (.int (e0_r1 &&& (255 : Int32))), .val (.int (3 : Int32)), .val (.int (own_j3_59_0 e0_r1)), .val (.int (own_j3_76_0 e0_r1)), .val (.int (1 : Int32)), .unset] [(.int (3 : Int32)), (.int (1 : Int32))])) _
          refine XS.icmpNo X0.here hx rfl (hb hby d3_161) rfl (tlt (by decide : (1 : Int32) < (3 : Int32))).2.1 ?_
          show Steps p.tables e below (s₁.setTop (mkF m 164 #[.val (.ref r1), .val (.int (0 : Int32)), .val (.int i3), .val (.int (e0_r1 &&& (255 : Int32))), .val (.int (3 : Int32)), .val (.int (own_j3_59_0 e0_r1)), .val (.int (own_j3_76_0 e0_r1)), .val (.int (1 : Int32)), .unset] [])) _
          refine XS.iload X0.here hx rfl (hb hby d3_164) rfl ?_
          show Steps p.tables e below (s₁.setTop (mkF m 166 #[.val (.ref r1), .val (.int (0 : Int32)), .val (.int i3), .val (.int (e0_r1 &&& (255 : Int32))), .val (.int (3 : Int32)), .val (.int (own_j3_59_0 e0_r1)), .val (.int (own_j3_76_0 e0_r1)), .val (.int (1 : Int32)), .unset] [(.int (1 : Int32))])) _
          refine XS.iloadN X0.here hx rfl (hb hby d3_166) rfl ?_
          exact k
        have pre74 : ∀ t, Steps p.tables e below (s₁.setTop (mkF m 182 #[.val (.ref r1), .val (.int (0 : Int32)), .val (.int i3), .val (.int (e0_r1 &&& (255 : Int32))), .val (.int (3 : Int32)), .val (.int (own_j3_59_0 e0_r1)), .val (.int (own_j3_76_0 e0_r1)), .val (.int (1 : Int32)), .unset] [(.int (own_j3_167_0 i3 e1_r1))])) t → Steps p.tables e below (s₁.setTop (entryFrame m #[(.ref r1), (.int (0 : Int32)), (.int i3)] 9)) t := by
          by_cases hc167_70 : (1 : Int32) < i3
          · obtain ⟨cl71, Ar71, Cq71, Sz71, Nn71, Hh71, Gg71⟩ := id V_r1
            have hin71 : ¬ ((1 : Int32) < 0 ∨ cl71.slots.size ≤ ((1 : Int32)).toNatClampNeg) := inb_of Sz71 ⟨by decide, by decide⟩
            have hat71 : cl71.slots[((1 : Int32)).toNatClampNeg]? = some (.int e1_r1) := Hh71.at hin71 rfl
            have pre72 : ∀ t, Steps p.tables e below (s₁.setTop (mkF m 182 #[.val (.ref r1), .val (.int (0 : Int32)), .val (.int i3), .val (.int (e0_r1 &&& (255 : Int32))), .val (.int (3 : Int32)), .val (.int (own_j3_59_0 e0_r1)), .val (.int (own_j3_76_0 e0_r1)), .val (.int (1 : Int32)), .unset] [(.int (e1_r1 &&& (255 : Int32)))])) t → Steps p.tables e below (s₁.setTop (entryFrame m #[(.ref r1), (.int (0 : Int32)), (.int i3)] 9)) t := by
              intro t k
              refine pre69 _ ?_
              show Steps p.tables e below (s₁.setTop (mkF m 167 #[.val (.ref r1), .val (.int (0 : Int32)), .val (.int i3), .val (.int (e0_r1 &&& (255 : Int32))), .val (.int (3 : Int32)), .val (.int (own_j3_59_0 e0_r1)), .val (.int (own_j3_76_0 e0_r1)), .val (.int (1 : Int32)), .unset] [(.int i3), (.int (1 : Int32))])) _
              refine XS.icmpNo X0.here hx rfl (hb hby d3_167) rfl (tlt hc167_70).2.1 ?_
              show Steps p.tables e below (s₁.setTop (mkF m 170 #[.val (.ref r1), .val (.int (0 : Int32)), .val (.int i3), .val (.int (e0_r1 &&& (255 : Int32))), .val (.int (3 : Int32)), .val (.int (own_j3_59_0 e0_r1)), .val (.int (own_j3_76_0 e0_r1)), .val (.int (1 : Int32)), .unset] [])) _
              refine XS.aloadN X0.here hx rfl (hb hby d3_170) rfl rfl ?_
              show Steps p.tables e below (s₁.setTop (mkF m 171 #[.val (.ref r1), .val (.int (0 : Int32)), .val (.int i3), .val (.int (e0_r1 &&& (255 : Int32))), .val (.int (3 : Int32)), .val (.int (own_j3_59_0 e0_r1)), .val (.int (own_j3_76_0 e0_r1)), .val (.int (1 : Int32)), .unset] [(.ref r1)])) _
              refine XS.iload X0.here hx rfl (hb hby d3_171) rfl ?_
              show Steps p.tables e below (s₁.setTop (mkF m 173 #[.val (.ref r1), .val (.int (0 : Int32)), .val (.int i3), .val (.int (e0_r1 &&& (255 : Int32))), .val (.int (3 : Int32)), .val (.int (own_j3_59_0 e0_r1)), .val (.int (own_j3_76_0 e0_r1)), .val (.int (1 : Int32)), .unset] [(.int (1 : Int32)), (.ref r1)])) _
              refine X0.baloadBytes hx (j := (1 : Int32)) (v := (.int e1_r1)) (by rw [e0]; exact Ar71.1) (State.isArrayOf_alike hZ.alike Ar71.2.1) Ar71.2.2 hin71 hat71 (g := (mkF m 173 #[.val (.ref r1), .val (.int (0 : Int32)), .val (.int i3), .val (.int (e0_r1 &&& (255 : Int32))), .val (.int (3 : Int32)), .val (.int (own_j3_59_0 e0_r1)), .val (.int (own_j3_76_0 e0_r1)), .val (.int (1 : Int32)), .unset] [(.int (1 : Int32)), (.ref r1)])) rfl rfl (hb hby d3_173) _ ?_
              show Steps p.tables e below (s₁.setTop (mkF m 174 #[.val (.ref r1), .val (.int (0 : Int32)), .val (.int i3), .val (.int (e0_r1 &&& (255 : Int32))), .val (.int (3 : Int32)), .val (.int (own_j3_59_0 e0_r1)), .val (.int (own_j3_76_0 e0_r1)), .val (.int (1 : Int32)), .unset] [(.int e1_r1)])) _
              refine XS.sipush X0.here hx rfl (hb hby d3_174) ?_
              show Steps p.tables e below (s₁.setTop (mkF m 177 #[.val (.ref r1), .val (.int (0 : Int32)), .val (.int i3), .val (.int (e0_r1 &&& (255 : Int32))), .val (.int (3 : Int32)), .val (.int (own_j3_59_0 e0_r1)), .val (.int (own_j3_76_0 e0_r1)), .val (.int (1 : Int32)), .unset] [(.int (255 : Int32)), (.int e1_r1)])) _
              refine XS.iand X0.here hx rfl (hb hby d3_177) rfl ?_
              show Steps p.tables e below (s₁.setTop (mkF m 178 #[.val (.ref r1), .val (.int (0 : Int32)), .val (.int i3), .val (.int (e0_r1 &&& (255 : Int32))), .val (.int (3 : Int32)), .val (.int (own_j3_59_0 e0_r1)), .val (.int (own_j3_76_0 e0_r1)), .val (.int (1 : Int32)), .unset] [(.int (e1_r1 &&& (255 : Int32)))])) _
              refine XS.goto X0.here hx rfl (pc0 := 178) (pc' := 182) rfl (hb hby d3_178) (by decide) (by decide) ?_
              exact k
            exact fun t k => pre72 t (by rw [show (own_j3_167_0 i3 e1_r1) = (e1_r1 &&& (255 : Int32)) from (if_pos hc167_70)] at k; exact k)
          · have pre73 : ∀ t, Steps p.tables e below (s₁.setTop (mkF m 182 #[.val (.ref r1), .val (.int (0 : Int32)), .val (.int i3), .val (.int (e0_r1 &&& (255 : Int32))), .val (.int (3 : Int32)), .val (.int (own_j3_59_0 e0_r1)), .val (.int (own_j3_76_0 e0_r1)), .val (.int (1 : Int32)), .unset] [(.int (-1 : Int32))])) t → Steps p.tables e below (s₁.setTop (entryFrame m #[(.ref r1), (.int (0 : Int32)), (.int i3)] 9)) t := by
              intro t k
              refine pre69 _ ?_
              show Steps p.tables e below (s₁.setTop (mkF m 167 #[.val (.ref r1), .val (.int (0 : Int32)), .val (.int i3), .val (.int (e0_r1 &&& (255 : Int32))), .val (.int (3 : Int32)), .val (.int (own_j3_59_0 e0_r1)), .val (.int (own_j3_76_0 e0_r1)), .val (.int (1 : Int32)), .unset] [(.int i3), (.int (1 : Int32))])) _
              refine XS.icmpYes X0.here hx rfl (pc0 := 167) (pc' := 181) rfl (hb hby d3_167) rfl (flt hc167_70).2.1 (by decide) (by decide) ?_
              show Steps p.tables e below (s₁.setTop (mkF m 181 #[.val (.ref r1), .val (.int (0 : Int32)), .val (.int i3), .val (.int (e0_r1 &&& (255 : Int32))), .val (.int (3 : Int32)), .val (.int (own_j3_59_0 e0_r1)), .val (.int (own_j3_76_0 e0_r1)), .val (.int (1 : Int32)), .unset] [])) _
              refine XS.iconst X0.here hx rfl (hb hby d3_181) ?_
              exact k
            exact fun t k => pre73 t (by rw [show (own_j3_167_0 i3 e1_r1) = (-1 : Int32) from (if_neg hc167_70)] at k; exact k)
        have pre75 : ∀ t, Steps p.tables e below (s₁.setTop (mkF m 188 #[.val (.ref r1), .val (.int (0 : Int32)), .val (.int i3), .val (.int (e0_r1 &&& (255 : Int32))), .val (.int (3 : Int32)), .val (.int (own_j3_59_0 e0_r1)), .val (.int (own_j3_76_0 e0_r1)), .val (.int (1 : Int32)), .val (.int (own_j3_167_0 i3 e1_r1))] [(.int (own_j3_59_0 e0_r1)), (.int (own_j3_167_0 i3 e1_r1))])) t → Steps p.tables e below (s₁.setTop (entryFrame m #[(.ref r1), (.int (0 : Int32)), (.int i3)] 9)) t := by
          intro t k
          refine pre74 _ ?_
          show Steps p.tables e below (s₁.setTop (mkF m 182 #[.val (.ref r1), .val (.int (0 : Int32)), .val (.int i3), .val (.int (e0_r1 &&& (255 : Int32))), .val (.int (3 : Int32)), .val (.int (own_j3_59_0 e0_r1)), .val (.int (own_j3_76_0 e0_r1)), .val (.int (1 : Int32)), .unset] [(.int (own_j3_167_0 i3 e1_r1))])) _
          refine XS.istore X0.here hx rfl (hb hby d3_182) rfl (l' := #[.val (.ref r1), .val (.int (0 : Int32)), .val (.int i3), .val (.int (e0_r1 &&& (255 : Int32))), .val (.int (3 : Int32)), .val (.int (own_j3_59_0 e0_r1)), .val (.int (own_j3_76_0 e0_r1)), .val (.int (1 : Int32)), .val (.int (own_j3_167_0 i3 e1_r1))]) rfl ?_
          show Steps p.tables e below (s₁.setTop (mkF m 184 #[.val (.ref r1), .val (.int (0 : Int32)), .val (.int i3), .val (.int (e0_r1 &&& (255 : Int32))), .val (.int (3 : Int32)), .val (.int (own_j3_59_0 e0_r1)), .val (.int (own_j3_76_0 e0_r1)), .val (.int (1 : Int32)), .val (.int (own_j3_167_0 i3 e1_r1))] [])) _
          refine XS.iload X0.here hx rfl (hb hby d3_184) rfl ?_
          show Steps p.tables e below (s₁.setTop (mkF m 186 #[.val (.ref r1), .val (.int (0 : Int32)), .val (.int i3), .val (.int (e0_r1 &&& (255 : Int32))), .val (.int (3 : Int32)), .val (.int (own_j3_59_0 e0_r1)), .val (.int (own_j3_76_0 e0_r1)), .val (.int (1 : Int32)), .val (.int (own_j3_167_0 i3 e1_r1))] [(.int (own_j3_167_0 i3 e1_r1))])) _
          refine XS.iload X0.here hx rfl (hb hby d3_186) rfl ?_
          exact k
        by_cases hc188_76 : (own_j3_167_0 i3 e1_r1) < (own_j3_59_0 e0_r1)
        · have pre77 : ∀ t, Steps p.tables e below (s₁.setTop (mkF m 202 #[.val (.ref r1), .val (.int (0 : Int32)), .val (.int i3), .val (.int (e0_r1 &&& (255 : Int32))), .val (.int (3 : Int32)), .val (.int (own_j3_59_0 e0_r1)), .val (.int (own_j3_76_0 e0_r1)), .val (.int (1 : Int32)), .val (.int (own_j3_167_0 i3 e1_r1))] [(.int (-2 : Int32))])) t → Steps p.tables e below (s₁.setTop (entryFrame m #[(.ref r1), (.int (0 : Int32)), (.int i3)] 9)) t := by
            intro t k
            refine pre75 _ ?_
            show Steps p.tables e below (s₁.setTop (mkF m 188 #[.val (.ref r1), .val (.int (0 : Int32)), .val (.int i3), .val (.int (e0_r1 &&& (255 : Int32))), .val (.int (3 : Int32)), .val (.int (own_j3_59_0 e0_r1)), .val (.int (own_j3_76_0 e0_r1)), .val (.int (1 : Int32)), .val (.int (own_j3_167_0 i3 e1_r1))] [(.int (own_j3_59_0 e0_r1)), (.int (own_j3_167_0 i3 e1_r1))])) _
            refine XS.icmpYes X0.here hx rfl (pc0 := 188) (pc' := 198) rfl (hb hby d3_188) rfl (tlt hc188_76).1 (by decide) (by decide) ?_
            show Steps p.tables e below (s₁.setTop (mkF m 198 #[.val (.ref r1), .val (.int (0 : Int32)), .val (.int i3), .val (.int (e0_r1 &&& (255 : Int32))), .val (.int (3 : Int32)), .val (.int (own_j3_59_0 e0_r1)), .val (.int (own_j3_76_0 e0_r1)), .val (.int (1 : Int32)), .val (.int (own_j3_167_0 i3 e1_r1))] [])) _
            refine XS.iload X0.here hx rfl (hb hby d3_198) rfl ?_
            show Steps p.tables e below (s₁.setTop (mkF m 200 #[.val (.ref r1), .val (.int (0 : Int32)), .val (.int i3), .val (.int (e0_r1 &&& (255 : Int32))), .val (.int (3 : Int32)), .val (.int (own_j3_59_0 e0_r1)), .val (.int (own_j3_76_0 e0_r1)), .val (.int (1 : Int32)), .val (.int (own_j3_167_0 i3 e1_r1))] [(.int (1 : Int32))])) _
            refine XS.iconst X0.here hx rfl (hb hby d3_200) ?_
            show Steps p.tables e below (s₁.setTop (mkF m 201 #[.val (.ref r1), .val (.int (0 : Int32)), .val (.int i3), .val (.int (e0_r1 &&& (255 : Int32))), .val (.int (3 : Int32)), .val (.int (own_j3_59_0 e0_r1)), .val (.int (own_j3_76_0 e0_r1)), .val (.int (1 : Int32)), .val (.int (own_j3_167_0 i3 e1_r1))] [(.int (-1 : Int32)), (.int (1 : Int32))])) _
            refine XS.ixor X0.here hx rfl (hb hby d3_201) rfl ?_
            exact k
          obtain ⟨fs, hr, hrun, hended, hW, hsame⟩ := X0.leave (v := some (.int (-2 : Int32))) (fun h => by rw [Bd.returns] at h; cases h)
          refine ⟨_, _, pre77 _ ?_, hrun, hended, _, _, rfl, ?_, ⟨_, rfl⟩, hW, hsame.mono (by decide) (by decide)⟩
          · show Steps p.tables e below (s₁.setTop (mkF m 202 #[.val (.ref r1), .val (.int (0 : Int32)), .val (.int i3), .val (.int (e0_r1 &&& (255 : Int32))), .val (.int (3 : Int32)), .val (.int (own_j3_59_0 e0_r1)), .val (.int (own_j3_76_0 e0_r1)), .val (.int (1 : Int32)), .val (.int (own_j3_167_0 i3 e1_r1))] [(.int (-2 : Int32))])) _
            exact retI X0 hx Bd.returns (hb hby d3_202) hr
          · show Q3 Z r1 i3 e0_r1 e1_r1 e2_r1 e3_r1 e4_r1 e5_r1 k_r1 h0 n0 _ s₁.heap _
            rw [e0]
            exact ⟨congrArg (fun z => some (Value.int z)) (show (own_r3 i3 e0_r1 e1_r1 e2_r1 e3_r1) = (-2 : Int32) from ((if_neg hc22_3).trans ((if_pos hc29_6).trans ((if_neg hc49_8).trans (if_pos hc188_76))))).symm, N0, rfl⟩
        · have pre78 : ∀ t, Steps p.tables e below (s₁.setTop (mkF m 195 #[.val (.ref r1), .val (.int (0 : Int32)), .val (.int i3), .val (.int (e0_r1 &&& (255 : Int32))), .val (.int (3 : Int32)), .val (.int (own_j3_59_0 e0_r1)), .val (.int (own_j3_76_0 e0_r1)), .val (.int (1 : Int32)), .val (.int (own_j3_167_0 i3 e1_r1))] [(.int (own_j3_76_0 e0_r1)), (.int (own_j3_167_0 i3 e1_r1))])) t → Steps p.tables e below (s₁.setTop (entryFrame m #[(.ref r1), (.int (0 : Int32)), (.int i3)] 9)) t := by
            intro t k
            refine pre75 _ ?_
            show Steps p.tables e below (s₁.setTop (mkF m 188 #[.val (.ref r1), .val (.int (0 : Int32)), .val (.int i3), .val (.int (e0_r1 &&& (255 : Int32))), .val (.int (3 : Int32)), .val (.int (own_j3_59_0 e0_r1)), .val (.int (own_j3_76_0 e0_r1)), .val (.int (1 : Int32)), .val (.int (own_j3_167_0 i3 e1_r1))] [(.int (own_j3_59_0 e0_r1)), (.int (own_j3_167_0 i3 e1_r1))])) _
            refine XS.icmpNo X0.here hx rfl (hb hby d3_188) rfl (flt hc188_76).1 ?_
            show Steps p.tables e below (s₁.setTop (mkF m 191 #[.val (.ref r1), .val (.int (0 : Int32)), .val (.int i3), .val (.int (e0_r1 &&& (255 : Int32))), .val (.int (3 : Int32)), .val (.int (own_j3_59_0 e0_r1)), .val (.int (own_j3_76_0 e0_r1)), .val (.int (1 : Int32)), .val (.int (own_j3_167_0 i3 e1_r1))] [])) _
            refine XS.iload X0.here hx rfl (hb hby d3_191) rfl ?_
            show Steps p.tables e below (s₁.setTop (mkF m 193 #[.val (.ref r1), .val (.int (0 : Int32)), .val (.int i3), .val (.int (e0_r1 &&& (255 : Int32))), .val (.int (3 : Int32)), .val (.int (own_j3_59_0 e0_r1)), .val (.int (own_j3_76_0 e0_r1)), .val (.int (1 : Int32)), .val (.int (own_j3_167_0 i3 e1_r1))] [(.int (own_j3_167_0 i3 e1_r1))])) _
            refine XS.iload X0.here hx rfl (hb hby d3_193) rfl ?_
            exact k
          by_cases hc195_79 : (own_j3_76_0 e0_r1) < (own_j3_167_0 i3 e1_r1)
          · have pre80 : ∀ t, Steps p.tables e below (s₁.setTop (mkF m 202 #[.val (.ref r1), .val (.int (0 : Int32)), .val (.int i3), .val (.int (e0_r1 &&& (255 : Int32))), .val (.int (3 : Int32)), .val (.int (own_j3_59_0 e0_r1)), .val (.int (own_j3_76_0 e0_r1)), .val (.int (1 : Int32)), .val (.int (own_j3_167_0 i3 e1_r1))] [(.int (-2 : Int32))])) t → Steps p.tables e below (s₁.setTop (entryFrame m #[(.ref r1), (.int (0 : Int32)), (.int i3)] 9)) t := by
              intro t k
              refine pre78 _ ?_
              show Steps p.tables e below (s₁.setTop (mkF m 195 #[.val (.ref r1), .val (.int (0 : Int32)), .val (.int i3), .val (.int (e0_r1 &&& (255 : Int32))), .val (.int (3 : Int32)), .val (.int (own_j3_59_0 e0_r1)), .val (.int (own_j3_76_0 e0_r1)), .val (.int (1 : Int32)), .val (.int (own_j3_167_0 i3 e1_r1))] [(.int (own_j3_76_0 e0_r1)), (.int (own_j3_167_0 i3 e1_r1))])) _
              refine XS.icmpNo X0.here hx rfl (hb hby d3_195) rfl (tlt hc195_79).2.2.2 ?_
              show Steps p.tables e below (s₁.setTop (mkF m 198 #[.val (.ref r1), .val (.int (0 : Int32)), .val (.int i3), .val (.int (e0_r1 &&& (255 : Int32))), .val (.int (3 : Int32)), .val (.int (own_j3_59_0 e0_r1)), .val (.int (own_j3_76_0 e0_r1)), .val (.int (1 : Int32)), .val (.int (own_j3_167_0 i3 e1_r1))] [])) _
              refine XS.iload X0.here hx rfl (hb hby d3_198) rfl ?_
              show Steps p.tables e below (s₁.setTop (mkF m 200 #[.val (.ref r1), .val (.int (0 : Int32)), .val (.int i3), .val (.int (e0_r1 &&& (255 : Int32))), .val (.int (3 : Int32)), .val (.int (own_j3_59_0 e0_r1)), .val (.int (own_j3_76_0 e0_r1)), .val (.int (1 : Int32)), .val (.int (own_j3_167_0 i3 e1_r1))] [(.int (1 : Int32))])) _
              refine XS.iconst X0.here hx rfl (hb hby d3_200) ?_
              show Steps p.tables e below (s₁.setTop (mkF m 201 #[.val (.ref r1), .val (.int (0 : Int32)), .val (.int i3), .val (.int (e0_r1 &&& (255 : Int32))), .val (.int (3 : Int32)), .val (.int (own_j3_59_0 e0_r1)), .val (.int (own_j3_76_0 e0_r1)), .val (.int (1 : Int32)), .val (.int (own_j3_167_0 i3 e1_r1))] [(.int (-1 : Int32)), (.int (1 : Int32))])) _
              refine XS.ixor X0.here hx rfl (hb hby d3_201) rfl ?_
              exact k
            obtain ⟨fs, hr, hrun, hended, hW, hsame⟩ := X0.leave (v := some (.int (-2 : Int32))) (fun h => by rw [Bd.returns] at h; cases h)
            refine ⟨_, _, pre80 _ ?_, hrun, hended, _, _, rfl, ?_, ⟨_, rfl⟩, hW, hsame.mono (by decide) (by decide)⟩
            · show Steps p.tables e below (s₁.setTop (mkF m 202 #[.val (.ref r1), .val (.int (0 : Int32)), .val (.int i3), .val (.int (e0_r1 &&& (255 : Int32))), .val (.int (3 : Int32)), .val (.int (own_j3_59_0 e0_r1)), .val (.int (own_j3_76_0 e0_r1)), .val (.int (1 : Int32)), .val (.int (own_j3_167_0 i3 e1_r1))] [(.int (-2 : Int32))])) _
              exact retI X0 hx Bd.returns (hb hby d3_202) hr
            · show Q3 Z r1 i3 e0_r1 e1_r1 e2_r1 e3_r1 e4_r1 e5_r1 k_r1 h0 n0 _ s₁.heap _
              rw [e0]
              exact ⟨congrArg (fun z => some (Value.int z)) (show (own_r3 i3 e0_r1 e1_r1 e2_r1 e3_r1) = (-2 : Int32) from ((if_neg hc22_3).trans ((if_pos hc29_6).trans ((if_neg hc49_8).trans ((if_neg hc188_76).trans (if_pos hc195_79)))))).symm, N0, rfl⟩
          · have pre81 : ∀ t, Steps p.tables e below (s₁.setTop (mkF m 167 #[.val (.ref r1), .val (.int (0 : Int32)), .val (.int i3), .val (.int (e0_r1 &&& (255 : Int32))), .val (.int (3 : Int32)), .val (.int (128 : Int32)), .val (.int (191 : Int32)), .val (.int (2 : Int32)), .val (.int (own_j3_167_0 i3 e1_r1))] [(.int i3), (.int (2 : Int32))])) t → Steps p.tables e below (s₁.setTop (entryFrame m #[(.ref r1), (.int (0 : Int32)), (.int i3)] 9)) t := by
              intro t k
              refine pre78 _ ?_
              show Steps p.tables e below (s₁.setTop (mkF m 195 #[.val (.ref r1), .val (.int (0 : Int32)), .val (.int i3), .val (.int (e0_r1 &&& (255 : Int32))), .val (.int (3 : Int32)), .val (.int (own_j3_59_0 e0_r1)), .val (.int (own_j3_76_0 e0_r1)), .val (.int (1 : Int32)), .val (.int (own_j3_167_0 i3 e1_r1))] [(.int (own_j3_76_0 e0_r1)), (.int (own_j3_167_0 i3 e1_r1))])) _
              refine XS.icmpYes X0.here hx rfl (pc0 := 195) (pc' := 203) rfl (hb hby d3_195) rfl (flt hc195_79).2.2.2 (by decide) (by decide) ?_
              show Steps p.tables e below (s₁.setTop (mkF m 203 #[.val (.ref r1), .val (.int (0 : Int32)), .val (.int i3), .val (.int (e0_r1 &&& (255 : Int32))), .val (.int (3 : Int32)), .val (.int (own_j3_59_0 e0_r1)), .val (.int (own_j3_76_0 e0_r1)), .val (.int (1 : Int32)), .val (.int (own_j3_167_0 i3 e1_r1))] [])) _
              refine XS.sipush X0.here hx rfl (hb hby d3_203) ?_
              show Steps p.tables e below (s₁.setTop (mkF m 206 #[.val (.ref r1), .val (.int (0 : Int32)), .val (.int i3), .val (.int (e0_r1 &&& (255 : Int32))), .val (.int (3 : Int32)), .val (.int (own_j3_59_0 e0_r1)), .val (.int (own_j3_76_0 e0_r1)), .val (.int (1 : Int32)), .val (.int (own_j3_167_0 i3 e1_r1))] [(.int (128 : Int32))])) _
              refine XS.istore X0.here hx rfl (hb hby d3_206) rfl (l' := #[.val (.ref r1), .val (.int (0 : Int32)), .val (.int i3), .val (.int (e0_r1 &&& (255 : Int32))), .val (.int (3 : Int32)), .val (.int (128 : Int32)), .val (.int (own_j3_76_0 e0_r1)), .val (.int (1 : Int32)), .val (.int (own_j3_167_0 i3 e1_r1))]) rfl ?_
              show Steps p.tables e below (s₁.setTop (mkF m 208 #[.val (.ref r1), .val (.int (0 : Int32)), .val (.int i3), .val (.int (e0_r1 &&& (255 : Int32))), .val (.int (3 : Int32)), .val (.int (128 : Int32)), .val (.int (own_j3_76_0 e0_r1)), .val (.int (1 : Int32)), .val (.int (own_j3_167_0 i3 e1_r1))] [])) _
              refine XS.sipush X0.here hx rfl (hb hby d3_208) ?_
              show Steps p.tables e below (s₁.setTop (mkF m 211 #[.val (.ref r1), .val (.int (0 : Int32)), .val (.int i3), .val (.int (e0_r1 &&& (255 : Int32))), .val (.int (3 : Int32)), .val (.int (128 : Int32)), .val (.int (own_j3_76_0 e0_r1)), .val (.int (1 : Int32)), .val (.int (own_j3_167_0 i3 e1_r1))] [(.int (191 : Int32))])) _
              refine XS.istore X0.here hx rfl (hb hby d3_211) rfl (l' := #[.val (.ref r1), .val (.int (0 : Int32)), .val (.int i3), .val (.int (e0_r1 &&& (255 : Int32))), .val (.int (3 : Int32)), .val (.int (128 : Int32)), .val (.int (191 : Int32)), .val (.int (1 : Int32)), .val (.int (own_j3_167_0 i3 e1_r1))]) rfl ?_
              show Steps p.tables e below (s₁.setTop (mkF m 213 #[.val (.ref r1), .val (.int (0 : Int32)), .val (.int i3), .val (.int (e0_r1 &&& (255 : Int32))), .val (.int (3 : Int32)), .val (.int (128 : Int32)), .val (.int (191 : Int32)), .val (.int (1 : Int32)), .val (.int (own_j3_167_0 i3 e1_r1))] [])) _
              refine XS.iinc X0.here hx rfl (hb hby d3_213) rfl (l' := #[.val (.ref r1), .val (.int (0 : Int32)), .val (.int i3), .val (.int (e0_r1 &&& (255 : Int32))), .val (.int (3 : Int32)), .val (.int (128 : Int32)), .val (.int (191 : Int32)), .val (.int (2 : Int32)), .val (.int (own_j3_167_0 i3 e1_r1))]) rfl ?_
              show Steps p.tables e below (s₁.setTop (mkF m 216 #[.val (.ref r1), .val (.int (0 : Int32)), .val (.int i3), .val (.int (e0_r1 &&& (255 : Int32))), .val (.int (3 : Int32)), .val (.int (128 : Int32)), .val (.int (191 : Int32)), .val (.int (2 : Int32)), .val (.int (own_j3_167_0 i3 e1_r1))] [])) _
              refine XS.goto X0.here hx rfl (pc0 := 216) (pc' := 155) rfl (hb hby d3_216) (by decide) (by decide) ?_
              show Steps p.tables e below (s₁.setTop (mkF m 155 #[.val (.ref r1), .val (.int (0 : Int32)), .val (.int i3), .val (.int (e0_r1 &&& (255 : Int32))), .val (.int (3 : Int32)), .val (.int (128 : Int32)), .val (.int (191 : Int32)), .val (.int (2 : Int32)), .val (.int (own_j3_167_0 i3 e1_r1))] [])) _
              refine XS.iload X0.here hx rfl (hb hby d3_155) rfl ?_
              show Steps p.tables e below (s₁.setTop (mkF m 157 #[.val (.ref r1), .val (.int (0 : Int32)), .val (.int i3), .val (.int (e0_r1 &&& (255 : Int32))), .val (.int (3 : Int32)), .val (.int (128 : Int32)), .val (.int (191 : Int32)), .val (.int (2 : Int32)), .val (.int (own_j3_167_0 i3 e1_r1))] [(.int (2 : Int32))])) _
              refine XS.iloadN X0.here hx rfl (hb hby d3_157) rfl ?_
              show Steps p.tables e below (s₁.setTop (mkF m 158 #[.val (.ref r1), .val (.int (0 : Int32)), .val (.int i3), .val (.int (e0_r1 &&& (255 : Int32))), .val (.int (3 : Int32)), .val (.int (128 : Int32)), .val (.int (191 : Int32)), .val (.int (2 : Int32)), .val (.int (own_j3_167_0 i3 e1_r1))] [(.int (0 : Int32)), (.int (2 : Int32))])) _
              refine XS.iload X0.here hx rfl (hb hby d3_158) rfl ?_
              show Steps p.tables e below (s₁.setTop (mkF m 160 #[.val (.ref r1), .val (.int (0 : Int32)), .val (.int i3), .val (.int (e0_r1 &&& (255 : Int32))), .val (.int (3 : Int32)), .val (.int (128 : Int32)), .val (.int (191 : Int32)), .val (.int (2 : Int32)), .val (.int (own_j3_167_0 i3 e1_r1))] [(.int (3 : Int32)), (.int (0 : Int32)), (.int (2 : Int32))])) _
              refine XS.iadd X0.here hx rfl (hb hby d3_160) rfl ?_
              show Steps p.tables e below (s₁.setTop (mkF m 161 #[.val (.ref r1), .val (.int (0 : Int32)), .val (.int i3), .val (.int (e0_r1 &&& (255 : Int32))), .val (.int (3 : Int32)), .val (.int (128 : Int32)), .val (.int (191 : Int32)), .val (.int (2 : Int32)), .val (.int (own_j3_167_0 i3 e1_r1))] [(.int (3 : Int32)), (.int (2 : Int32))])) _
              refine XS.icmpNo X0.here hx rfl (hb hby d3_161) rfl (tlt (by decide : (2 : Int32) < (3 : Int32))).2.1 ?_
              show Steps p.tables e below (s₁.setTop (mkF m 164 #[.val (.ref r1), .val (.int (0 : Int32)), .val (.int i3), .val (.int (e0_r1 &&& (255 : Int32))), .val (.int (3 : Int32)), .val (.int (128 : Int32)), .val (.int (191 : Int32)), .val (.int (2 : Int32)), .val (.int (own_j3_167_0 i3 e1_r1))] [])) _
              refine XS.iload X0.here hx rfl (hb hby d3_164) rfl ?_
              show Steps p.tables e below (s₁.setTop (mkF m 166 #[.val (.ref r1), .val (.int (0 : Int32)), .val (.int i3), .val (.int (e0_r1 &&& (255 : Int32))), .val (.int (3 : Int32)), .val (.int (128 : Int32)), .val (.int (191 : Int32)), .val (.int (2 : Int32)), .val (.int (own_j3_167_0 i3 e1_r1))] [(.int (2 : Int32))])) _
              refine XS.iloadN X0.here hx rfl (hb hby d3_166) rfl ?_
              exact k
            have pre86 : ∀ t, Steps p.tables e below (s₁.setTop (mkF m 182 #[.val (.ref r1), .val (.int (0 : Int32)), .val (.int i3), .val (.int (e0_r1 &&& (255 : Int32))), .val (.int (3 : Int32)), .val (.int (128 : Int32)), .val (.int (191 : Int32)), .val (.int (2 : Int32)), .val (.int (own_j3_167_0 i3 e1_r1))] [(.int (own_j3_167_0_v1 i3 e2_r1))])) t → Steps p.tables e below (s₁.setTop (entryFrame m #[(.ref r1), (.int (0 : Int32)), (.int i3)] 9)) t := by
              by_cases hc167_82 : (2 : Int32) < i3
              · obtain ⟨cl83, Ar83, Cq83, Sz83, Nn83, Hh83, Gg83⟩ := id V_r1
                have hin83 : ¬ ((2 : Int32) < 0 ∨ cl83.slots.size ≤ ((2 : Int32)).toNatClampNeg) := inb_of Sz83 ⟨by decide, by decide⟩
                have hat83 : cl83.slots[((2 : Int32)).toNatClampNeg]? = some (.int e2_r1) := Hh83.at hin83 rfl
                have pre84 : ∀ t, Steps p.tables e below (s₁.setTop (mkF m 182 #[.val (.ref r1), .val (.int (0 : Int32)), .val (.int i3), .val (.int (e0_r1 &&& (255 : Int32))), .val (.int (3 : Int32)), .val (.int (128 : Int32)), .val (.int (191 : Int32)), .val (.int (2 : Int32)), .val (.int (own_j3_167_0 i3 e1_r1))] [(.int (e2_r1 &&& (255 : Int32)))])) t → Steps p.tables e below (s₁.setTop (entryFrame m #[(.ref r1), (.int (0 : Int32)), (.int i3)] 9)) t := by
                  intro t k
                  refine pre81 _ ?_
                  show Steps p.tables e below (s₁.setTop (mkF m 167 #[.val (.ref r1), .val (.int (0 : Int32)), .val (.int i3), .val (.int (e0_r1 &&& (255 : Int32))), .val (.int (3 : Int32)), .val (.int (128 : Int32)), .val (.int (191 : Int32)), .val (.int (2 : Int32)), .val (.int (own_j3_167_0 i3 e1_r1))] [(.int i3), (.int (2 : Int32))])) _
                  refine XS.icmpNo X0.here hx rfl (hb hby d3_167) rfl (tlt hc167_82).2.1 ?_
                  show Steps p.tables e below (s₁.setTop (mkF m 170 #[.val (.ref r1), .val (.int (0 : Int32)), .val (.int i3), .val (.int (e0_r1 &&& (255 : Int32))), .val (.int (3 : Int32)), .val (.int (128 : Int32)), .val (.int (191 : Int32)), .val (.int (2 : Int32)), .val (.int (own_j3_167_0 i3 e1_r1))] [])) _
                  refine XS.aloadN X0.here hx rfl (hb hby d3_170) rfl rfl ?_
                  show Steps p.tables e below (s₁.setTop (mkF m 171 #[.val (.ref r1), .val (.int (0 : Int32)), .val (.int i3), .val (.int (e0_r1 &&& (255 : Int32))), .val (.int (3 : Int32)), .val (.int (128 : Int32)), .val (.int (191 : Int32)), .val (.int (2 : Int32)), .val (.int (own_j3_167_0 i3 e1_r1))] [(.ref r1)])) _
                  refine XS.iload X0.here hx rfl (hb hby d3_171) rfl ?_
                  show Steps p.tables e below (s₁.setTop (mkF m 173 #[.val (.ref r1), .val (.int (0 : Int32)), .val (.int i3), .val (.int (e0_r1 &&& (255 : Int32))), .val (.int (3 : Int32)), .val (.int (128 : Int32)), .val (.int (191 : Int32)), .val (.int (2 : Int32)), .val (.int (own_j3_167_0 i3 e1_r1))] [(.int (2 : Int32)), (.ref r1)])) _
                  refine X0.baloadBytes hx (j := (2 : Int32)) (v := (.int e2_r1)) (by rw [e0]; exact Ar83.1) (State.isArrayOf_alike hZ.alike Ar83.2.1) Ar83.2.2 hin83 hat83 (g := (mkF m 173 #[.val (.ref r1), .val (.int (0 : Int32)), .val (.int i3), .val (.int (e0_r1 &&& (255 : Int32))), .val (.int (3 : Int32)), .val (.int (128 : Int32)), .val (.int (191 : Int32)), .val (.int (2 : Int32)), .val (.int (own_j3_167_0 i3 e1_r1))] [(.int (2 : Int32)), (.ref r1)])) rfl rfl (hb hby d3_173) _ ?_
                  show Steps p.tables e below (s₁.setTop (mkF m 174 #[.val (.ref r1), .val (.int (0 : Int32)), .val (.int i3), .val (.int (e0_r1 &&& (255 : Int32))), .val (.int (3 : Int32)), .val (.int (128 : Int32)), .val (.int (191 : Int32)), .val (.int (2 : Int32)), .val (.int (own_j3_167_0 i3 e1_r1))] [(.int e2_r1)])) _
                  refine XS.sipush X0.here hx rfl (hb hby d3_174) ?_
                  show Steps p.tables e below (s₁.setTop (mkF m 177 #[.val (.ref r1), .val (.int (0 : Int32)), .val (.int i3), .val (.int (e0_r1 &&& (255 : Int32))), .val (.int (3 : Int32)), .val (.int (128 : Int32)), .val (.int (191 : Int32)), .val (.int (2 : Int32)), .val (.int (own_j3_167_0 i3 e1_r1))] [(.int (255 : Int32)), (.int e2_r1)])) _
                  refine XS.iand X0.here hx rfl (hb hby d3_177) rfl ?_
                  show Steps p.tables e below (s₁.setTop (mkF m 178 #[.val (.ref r1), .val (.int (0 : Int32)), .val (.int i3), .val (.int (e0_r1 &&& (255 : Int32))), .val (.int (3 : Int32)), .val (.int (128 : Int32)), .val (.int (191 : Int32)), .val (.int (2 : Int32)), .val (.int (own_j3_167_0 i3 e1_r1))] [(.int (e2_r1 &&& (255 : Int32)))])) _
                  refine XS.goto X0.here hx rfl (pc0 := 178) (pc' := 182) rfl (hb hby d3_178) (by decide) (by decide) ?_
                  exact k
                exact fun t k => pre84 t (by rw [show (own_j3_167_0_v1 i3 e2_r1) = (e2_r1 &&& (255 : Int32)) from (if_pos hc167_82)] at k; exact k)
              · have pre85 : ∀ t, Steps p.tables e below (s₁.setTop (mkF m 182 #[.val (.ref r1), .val (.int (0 : Int32)), .val (.int i3), .val (.int (e0_r1 &&& (255 : Int32))), .val (.int (3 : Int32)), .val (.int (128 : Int32)), .val (.int (191 : Int32)), .val (.int (2 : Int32)), .val (.int (own_j3_167_0 i3 e1_r1))] [(.int (-1 : Int32))])) t → Steps p.tables e below (s₁.setTop (entryFrame m #[(.ref r1), (.int (0 : Int32)), (.int i3)] 9)) t := by
                  intro t k
                  refine pre81 _ ?_
                  show Steps p.tables e below (s₁.setTop (mkF m 167 #[.val (.ref r1), .val (.int (0 : Int32)), .val (.int i3), .val (.int (e0_r1 &&& (255 : Int32))), .val (.int (3 : Int32)), .val (.int (128 : Int32)), .val (.int (191 : Int32)), .val (.int (2 : Int32)), .val (.int (own_j3_167_0 i3 e1_r1))] [(.int i3), (.int (2 : Int32))])) _
                  refine XS.icmpYes X0.here hx rfl (pc0 := 167) (pc' := 181) rfl (hb hby d3_167) rfl (flt hc167_82).2.1 (by decide) (by decide) ?_
                  show Steps p.tables e below (s₁.setTop (mkF m 181 #[.val (.ref r1), .val (.int (0 : Int32)), .val (.int i3), .val (.int (e0_r1 &&& (255 : Int32))), .val (.int (3 : Int32)), .val (.int (128 : Int32)), .val (.int (191 : Int32)), .val (.int (2 : Int32)), .val (.int (own_j3_167_0 i3 e1_r1))] [])) _
                  refine XS.iconst X0.here hx rfl (hb hby d3_181) ?_
                  exact k
                exact fun t k => pre85 t (by rw [show (own_j3_167_0_v1 i3 e2_r1) = (-1 : Int32) from (if_neg hc167_82)] at k; exact k)
            have pre87 : ∀ t, Steps p.tables e below (s₁.setTop (mkF m 188 #[.val (.ref r1), .val (.int (0 : Int32)), .val (.int i3), .val (.int (e0_r1 &&& (255 : Int32))), .val (.int (3 : Int32)), .val (.int (128 : Int32)), .val (.int (191 : Int32)), .val (.int (2 : Int32)), .val (.int (own_j3_167_0_v1 i3 e2_r1))] [(.int (128 : Int32)), (.int (own_j3_167_0_v1 i3 e2_r1))])) t → Steps p.tables e below (s₁.setTop (entryFrame m #[(.ref r1), (.int (0 : Int32)), (.int i3)] 9)) t := by
              intro t k
              refine pre86 _ ?_
              show Steps p.tables e below (s₁.setTop (mkF m 182 #[.val (.ref r1), .val (.int (0 : Int32)), .val (.int i3), .val (.int (e0_r1 &&& (255 : Int32))), .val (.int (3 : Int32)), .val (.int (128 : Int32)), .val (.int (191 : Int32)), .val (.int (2 : Int32)), .val (.int (own_j3_167_0 i3 e1_r1))] [(.int (own_j3_167_0_v1 i3 e2_r1))])) _
              refine XS.istore X0.here hx rfl (hb hby d3_182) rfl (l' := #[.val (.ref r1), .val (.int (0 : Int32)), .val (.int i3), .val (.int (e0_r1 &&& (255 : Int32))), .val (.int (3 : Int32)), .val (.int (128 : Int32)), .val (.int (191 : Int32)), .val (.int (2 : Int32)), .val (.int (own_j3_167_0_v1 i3 e2_r1))]) rfl ?_
              show Steps p.tables e below (s₁.setTop (mkF m 184 #[.val (.ref r1), .val (.int (0 : Int32)), .val (.int i3), .val (.int (e0_r1 &&& (255 : Int32))), .val (.int (3 : Int32)), .val (.int (128 : Int32)), .val (.int (191 : Int32)), .val (.int (2 : Int32)), .val (.int (own_j3_167_0_v1 i3 e2_r1))] [])) _
              refine XS.iload X0.here hx rfl (hb hby d3_184) rfl ?_
              show Steps p.tables e below (s₁.setTop (mkF m 186 #[.val (.ref r1), .val (.int (0 : Int32)), .val (.int i3), .val (.int (e0_r1 &&& (255 : Int32))), .val (.int (3 : Int32)), .val (.int (128 : Int32)), .val (.int (191 : Int32)), .val (.int (2 : Int32)), .val (.int (own_j3_167_0_v1 i3 e2_r1))] [(.int (own_j3_167_0_v1 i3 e2_r1))])) _
              refine XS.iload X0.here hx rfl (hb hby d3_186) rfl ?_
              exact k
            by_cases hc188_88 : (own_j3_167_0_v1 i3 e2_r1) < (128 : Int32)
            · have pre89 : ∀ t, Steps p.tables e below (s₁.setTop (mkF m 202 #[.val (.ref r1), .val (.int (0 : Int32)), .val (.int i3), .val (.int (e0_r1 &&& (255 : Int32))), .val (.int (3 : Int32)), .val (.int (128 : Int32)), .val (.int (191 : Int32)), .val (.int (2 : Int32)), .val (.int (own_j3_167_0_v1 i3 e2_r1))] [(.int (-3 : Int32))])) t → Steps p.tables e below (s₁.setTop (entryFrame m #[(.ref r1), (.int (0 : Int32)), (.int i3)] 9)) t := by
                intro t k
                refine pre87 _ ?_
                show Steps p.tables e below (s₁.setTop (mkF m 188 #[.val (.ref r1), .val (.int (0 : Int32)), .val (.int i3), .val (.int (e0_r1 &&& (255 : Int32))), .val (.int (3 : Int32)), .val (.int (128 : Int32)), .val (.int (191 : Int32)), .val (.int (2 : Int32)), .val (.int (own_j3_167_0_v1 i3 e2_r1))] [(.int (128 : Int32)), (.int (own_j3_167_0_v1 i3 e2_r1))])) _
                refine XS.icmpYes X0.here hx rfl (pc0 := 188) (pc' := 198) rfl (hb hby d3_188) rfl (tlt hc188_88).1 (by decide) (by decide) ?_
                show Steps p.tables e below (s₁.setTop (mkF m 198 #[.val (.ref r1), .val (.int (0 : Int32)), .val (.int i3), .val (.int (e0_r1 &&& (255 : Int32))), .val (.int (3 : Int32)), .val (.int (128 : Int32)), .val (.int (191 : Int32)), .val (.int (2 : Int32)), .val (.int (own_j3_167_0_v1 i3 e2_r1))] [])) _
                refine XS.iload X0.here hx rfl (hb hby d3_198) rfl ?_
                show Steps p.tables e below (s₁.setTop (mkF m 200 #[.val (.ref r1), .val (.int (0 : Int32)), .val (.int i3), .val (.int (e0_r1 &&& (255 : Int32))), .val (.int (3 : Int32)), .val (.int (128 : Int32)), .val (.int (191 : Int32)), .val (.int (2 : Int32)), .val (.int (own_j3_167_0_v1 i3 e2_r1))] [(.int (2 : Int32))])) _
                refine XS.iconst X0.here hx rfl (hb hby d3_200) ?_
                show Steps p.tables e below (s₁.setTop (mkF m 201 #[.val (.ref r1), .val (.int (0 : Int32)), .val (.int i3), .val (.int (e0_r1 &&& (255 : Int32))), .val (.int (3 : Int32)), .val (.int (128 : Int32)), .val (.int (191 : Int32)), .val (.int (2 : Int32)), .val (.int (own_j3_167_0_v1 i3 e2_r1))] [(.int (-1 : Int32)), (.int (2 : Int32))])) _
                refine XS.ixor X0.here hx rfl (hb hby d3_201) rfl ?_
                exact k
              obtain ⟨fs, hr, hrun, hended, hW, hsame⟩ := X0.leave (v := some (.int (-3 : Int32))) (fun h => by rw [Bd.returns] at h; cases h)
              refine ⟨_, _, pre89 _ ?_, hrun, hended, _, _, rfl, ?_, ⟨_, rfl⟩, hW, hsame.mono (by decide) (by decide)⟩
              · show Steps p.tables e below (s₁.setTop (mkF m 202 #[.val (.ref r1), .val (.int (0 : Int32)), .val (.int i3), .val (.int (e0_r1 &&& (255 : Int32))), .val (.int (3 : Int32)), .val (.int (128 : Int32)), .val (.int (191 : Int32)), .val (.int (2 : Int32)), .val (.int (own_j3_167_0_v1 i3 e2_r1))] [(.int (-3 : Int32))])) _
                exact retI X0 hx Bd.returns (hb hby d3_202) hr
              · show Q3 Z r1 i3 e0_r1 e1_r1 e2_r1 e3_r1 e4_r1 e5_r1 k_r1 h0 n0 _ s₁.heap _
                rw [e0]
                exact ⟨congrArg (fun z => some (Value.int z)) (show (own_r3 i3 e0_r1 e1_r1 e2_r1 e3_r1) = (-3 : Int32) from ((if_neg hc22_3).trans ((if_pos hc29_6).trans ((if_neg hc49_8).trans ((if_neg hc188_76).trans ((if_neg hc195_79).trans (if_pos hc188_88))))))).symm, N0, rfl⟩
            · have pre90 : ∀ t, Steps p.tables e below (s₁.setTop (mkF m 195 #[.val (.ref r1), .val (.int (0 : Int32)), .val (.int i3), .val (.int (e0_r1 &&& (255 : Int32))), .val (.int (3 : Int32)), .val (.int (128 : Int32)), .val (.int (191 : Int32)), .val (.int (2 : Int32)), .val (.int (own_j3_167_0_v1 i3 e2_r1))] [(.int (191 : Int32)), (.int (own_j3_167_0_v1 i3 e2_r1))])) t → Steps p.tables e below (s₁.setTop (entryFrame m #[(.ref r1), (.int (0 : Int32)), (.int i3)] 9)) t := by
                intro t k
                refine pre87 _ ?_
                show Steps p.tables e below (s₁.setTop (mkF m 188 #[.val (.ref r1), .val (.int (0 : Int32)), .val (.int i3), .val (.int (e0_r1 &&& (255 : Int32))), .val (.int (3 : Int32)), .val (.int (128 : Int32)), .val (.int (191 : Int32)), .val (.int (2 : Int32)), .val (.int (own_j3_167_0_v1 i3 e2_r1))] [(.int (128 : Int32)), (.int (own_j3_167_0_v1 i3 e2_r1))])) _
                refine XS.icmpNo X0.here hx rfl (hb hby d3_188) rfl (flt hc188_88).1 ?_
                show Steps p.tables e below (s₁.setTop (mkF m 191 #[.val (.ref r1), .val (.int (0 : Int32)), .val (.int i3), .val (.int (e0_r1 &&& (255 : Int32))), .val (.int (3 : Int32)), .val (.int (128 : Int32)), .val (.int (191 : Int32)), .val (.int (2 : Int32)), .val (.int (own_j3_167_0_v1 i3 e2_r1))] [])) _
                refine XS.iload X0.here hx rfl (hb hby d3_191) rfl ?_
                show Steps p.tables e below (s₁.setTop (mkF m 193 #[.val (.ref r1), .val (.int (0 : Int32)), .val (.int i3), .val (.int (e0_r1 &&& (255 : Int32))), .val (.int (3 : Int32)), .val (.int (128 : Int32)), .val (.int (191 : Int32)), .val (.int (2 : Int32)), .val (.int (own_j3_167_0_v1 i3 e2_r1))] [(.int (own_j3_167_0_v1 i3 e2_r1))])) _
                refine XS.iload X0.here hx rfl (hb hby d3_193) rfl ?_
                exact k
              by_cases hc195_91 : (191 : Int32) < (own_j3_167_0_v1 i3 e2_r1)
              · have pre92 : ∀ t, Steps p.tables e below (s₁.setTop (mkF m 202 #[.val (.ref r1), .val (.int (0 : Int32)), .val (.int i3), .val (.int (e0_r1 &&& (255 : Int32))), .val (.int (3 : Int32)), .val (.int (128 : Int32)), .val (.int (191 : Int32)), .val (.int (2 : Int32)), .val (.int (own_j3_167_0_v1 i3 e2_r1))] [(.int (-3 : Int32))])) t → Steps p.tables e below (s₁.setTop (entryFrame m #[(.ref r1), (.int (0 : Int32)), (.int i3)] 9)) t := by
                  intro t k
                  refine pre90 _ ?_
                  show Steps p.tables e below (s₁.setTop (mkF m 195 #[.val (.ref r1), .val (.int (0 : Int32)), .val (.int i3), .val (.int (e0_r1 &&& (255 : Int32))), .val (.int (3 : Int32)), .val (.int (128 : Int32)), .val (.int (191 : Int32)), .val (.int (2 : Int32)), .val (.int (own_j3_167_0_v1 i3 e2_r1))] [(.int (191 : Int32)), (.int (own_j3_167_0_v1 i3 e2_r1))])) _
                  refine XS.icmpNo X0.here hx rfl (hb hby d3_195) rfl (tlt hc195_91).2.2.2 ?_
                  show Steps p.tables e below (s₁.setTop (mkF m 198 #[.val (.ref r1), .val (.int (0 : Int32)), .val (.int i3), .val (.int (e0_r1 &&& (255 : Int32))), .val (.int (3 : Int32)), .val (.int (128 : Int32)), .val (.int (191 : Int32)), .val (.int (2 : Int32)), .val (.int (own_j3_167_0_v1 i3 e2_r1))] [])) _
                  refine XS.iload X0.here hx rfl (hb hby d3_198) rfl ?_
                  show Steps p.tables e below (s₁.setTop (mkF m 200 #[.val (.ref r1), .val (.int (0 : Int32)), .val (.int i3), .val (.int (e0_r1 &&& (255 : Int32))), .val (.int (3 : Int32)), .val (.int (128 : Int32)), .val (.int (191 : Int32)), .val (.int (2 : Int32)), .val (.int (own_j3_167_0_v1 i3 e2_r1))] [(.int (2 : Int32))])) _
                  refine XS.iconst X0.here hx rfl (hb hby d3_200) ?_
                  show Steps p.tables e below (s₁.setTop (mkF m 201 #[.val (.ref r1), .val (.int (0 : Int32)), .val (.int i3), .val (.int (e0_r1 &&& (255 : Int32))), .val (.int (3 : Int32)), .val (.int (128 : Int32)), .val (.int (191 : Int32)), .val (.int (2 : Int32)), .val (.int (own_j3_167_0_v1 i3 e2_r1))] [(.int (-1 : Int32)), (.int (2 : Int32))])) _
                  refine XS.ixor X0.here hx rfl (hb hby d3_201) rfl ?_
                  exact k
                obtain ⟨fs, hr, hrun, hended, hW, hsame⟩ := X0.leave (v := some (.int (-3 : Int32))) (fun h => by rw [Bd.returns] at h; cases h)
                refine ⟨_, _, pre92 _ ?_, hrun, hended, _, _, rfl, ?_, ⟨_, rfl⟩, hW, hsame.mono (by decide) (by decide)⟩
                · show Steps p.tables e below (s₁.setTop (mkF m 202 #[.val (.ref r1), .val (.int (0 : Int32)), .val (.int i3), .val (.int (e0_r1 &&& (255 : Int32))), .val (.int (3 : Int32)), .val (.int (128 : Int32)), .val (.int (191 : Int32)), .val (.int (2 : Int32)), .val (.int (own_j3_167_0_v1 i3 e2_r1))] [(.int (-3 : Int32))])) _
                  exact retI X0 hx Bd.returns (hb hby d3_202) hr
                · show Q3 Z r1 i3 e0_r1 e1_r1 e2_r1 e3_r1 e4_r1 e5_r1 k_r1 h0 n0 _ s₁.heap _
                  rw [e0]
                  exact ⟨congrArg (fun z => some (Value.int z)) (show (own_r3 i3 e0_r1 e1_r1 e2_r1 e3_r1) = (-3 : Int32) from ((if_neg hc22_3).trans ((if_pos hc29_6).trans ((if_neg hc49_8).trans ((if_neg hc188_76).trans ((if_neg hc195_79).trans ((if_neg hc188_88).trans (if_pos hc195_91)))))))).symm, N0, rfl⟩
              · have pre93 : ∀ t, Steps p.tables e below (s₁.setTop (mkF m 223 #[.val (.ref r1), .val (.int (0 : Int32)), .val (.int i3), .val (.int (e0_r1 &&& (255 : Int32))), .val (.int (3 : Int32)), .val (.int (128 : Int32)), .val (.int (191 : Int32)), .val (.int (3 : Int32)), .val (.int (own_j3_167_0_v1 i3 e2_r1))] [(.int (3 : Int32))])) t → Steps p.tables e below (s₁.setTop (entryFrame m #[(.ref r1), (.int (0 : Int32)), (.int i3)] 9)) t := by
                  intro t k
                  refine pre90 _ ?_
                  show Steps p.tables e below (s₁.setTop (mkF m 195 #[.val (.ref r1), .val (.int (0 : Int32)), .val (.int i3), .val (.int (e0_r1 &&& (255 : Int32))), .val (.int (3 : Int32)), .val (.int (128 : Int32)), .val (.int (191 : Int32)), .val (.int (2 : Int32)), .val (.int (own_j3_167_0_v1 i3 e2_r1))] [(.int (191 : Int32)), (.int (own_j3_167_0_v1 i3 e2_r1))])) _
                  refine XS.icmpYes X0.here hx rfl (pc0 := 195) (pc' := 203) rfl (hb hby d3_195) rfl (flt hc195_91).2.2.2 (by decide) (by decide) ?_
                  show Steps p.tables e below (s₁.setTop (mkF m 203 #[.val (.ref r1), .val (.int (0 : Int32)), .val (.int i3), .val (.int (e0_r1 &&& (255 : Int32))), .val (.int (3 : Int32)), .val (.int (128 : Int32)), .val (.int (191 : Int32)), .val (.int (2 : Int32)), .val (.int (own_j3_167_0_v1 i3 e2_r1))] [])) _
                  refine XS.sipush X0.here hx rfl (hb hby d3_203) ?_
                  show Steps p.tables e below (s₁.setTop (mkF m 206 #[.val (.ref r1), .val (.int (0 : Int32)), .val (.int i3), .val (.int (e0_r1 &&& (255 : Int32))), .val (.int (3 : Int32)), .val (.int (128 : Int32)), .val (.int (191 : Int32)), .val (.int (2 : Int32)), .val (.int (own_j3_167_0_v1 i3 e2_r1))] [(.int (128 : Int32))])) _
                  refine XS.istore X0.here hx rfl (hb hby d3_206) rfl (l' := #[.val (.ref r1), .val (.int (0 : Int32)), .val (.int i3), .val (.int (e0_r1 &&& (255 : Int32))), .val (.int (3 : Int32)), .val (.int (128 : Int32)), .val (.int (191 : Int32)), .val (.int (2 : Int32)), .val (.int (own_j3_167_0_v1 i3 e2_r1))]) rfl ?_
                  show Steps p.tables e below (s₁.setTop (mkF m 208 #[.val (.ref r1), .val (.int (0 : Int32)), .val (.int i3), .val (.int (e0_r1 &&& (255 : Int32))), .val (.int (3 : Int32)), .val (.int (128 : Int32)), .val (.int (191 : Int32)), .val (.int (2 : Int32)), .val (.int (own_j3_167_0_v1 i3 e2_r1))] [])) _
                  refine XS.sipush X0.here hx rfl (hb hby d3_208) ?_
                  show Steps p.tables e below (s₁.setTop (mkF m 211 #[.val (.ref r1), .val (.int (0 : Int32)), .val (.int i3), .val (.int (e0_r1 &&& (255 : Int32))), .val (.int (3 : Int32)), .val (.int (128 : Int32)), .val (.int (191 : Int32)), .val (.int (2 : Int32)), .val (.int (own_j3_167_0_v1 i3 e2_r1))] [(.int (191 : Int32))])) _
                  refine XS.istore X0.here hx rfl (hb hby d3_211) rfl (l' := #[.val (.ref r1), .val (.int (0 : Int32)), .val (.int i3), .val (.int (e0_r1 &&& (255 : Int32))), .val (.int (3 : Int32)), .val (.int (128 : Int32)), .val (.int (191 : Int32)), .val (.int (2 : Int32)), .val (.int (own_j3_167_0_v1 i3 e2_r1))]) rfl ?_
                  show Steps p.tables e below (s₁.setTop (mkF m 213 #[.val (.ref r1), .val (.int (0 : Int32)), .val (.int i3), .val (.int (e0_r1 &&& (255 : Int32))), .val (.int (3 : Int32)), .val (.int (128 : Int32)), .val (.int (191 : Int32)), .val (.int (2 : Int32)), .val (.int (own_j3_167_0_v1 i3 e2_r1))] [])) _
                  refine XS.iinc X0.here hx rfl (hb hby d3_213) rfl (l' := #[.val (.ref r1), .val (.int (0 : Int32)), .val (.int i3), .val (.int (e0_r1 &&& (255 : Int32))), .val (.int (3 : Int32)), .val (.int (128 : Int32)), .val (.int (191 : Int32)), .val (.int (3 : Int32)), .val (.int (own_j3_167_0_v1 i3 e2_r1))]) rfl ?_
                  show Steps p.tables e below (s₁.setTop (mkF m 216 #[.val (.ref r1), .val (.int (0 : Int32)), .val (.int i3), .val (.int (e0_r1 &&& (255 : Int32))), .val (.int (3 : Int32)), .val (.int (128 : Int32)), .val (.int (191 : Int32)), .val (.int (3 : Int32)), .val (.int (own_j3_167_0_v1 i3 e2_r1))] [])) _
                  refine XS.goto X0.here hx rfl (pc0 := 216) (pc' := 155) rfl (hb hby d3_216) (by decide) (by decide) ?_
                  show Steps p.tables e below (s₁.setTop (mkF m 155 #[.val (.ref r1), .val (.int (0 : Int32)), .val (.int i3), .val (.int (e0_r1 &&& (255 : Int32))), .val (.int (3 : Int32)), .val (.int (128 : Int32)), .val (.int (191 : Int32)), .val (.int (3 : Int32)), .val (.int (own_j3_167_0_v1 i3 e2_r1))] [])) _
                  refine XS.iload X0.here hx rfl (hb hby d3_155) rfl ?_
                  show Steps p.tables e below (s₁.setTop (mkF m 157 #[.val (.ref r1), .val (.int (0 : Int32)), .val (.int i3), .val (.int (e0_r1 &&& (255 : Int32))), .val (.int (3 : Int32)), .val (.int (128 : Int32)), .val (.int (191 : Int32)), .val (.int (3 : Int32)), .val (.int (own_j3_167_0_v1 i3 e2_r1))] [(.int (3 : Int32))])) _
                  refine XS.iloadN X0.here hx rfl (hb hby d3_157) rfl ?_
                  show Steps p.tables e below (s₁.setTop (mkF m 158 #[.val (.ref r1), .val (.int (0 : Int32)), .val (.int i3), .val (.int (e0_r1 &&& (255 : Int32))), .val (.int (3 : Int32)), .val (.int (128 : Int32)), .val (.int (191 : Int32)), .val (.int (3 : Int32)), .val (.int (own_j3_167_0_v1 i3 e2_r1))] [(.int (0 : Int32)), (.int (3 : Int32))])) _
                  refine XS.iload X0.here hx rfl (hb hby d3_158) rfl ?_
                  show Steps p.tables e below (s₁.setTop (mkF m 160 #[.val (.ref r1), .val (.int (0 : Int32)), .val (.int i3), .val (.int (e0_r1 &&& (255 : Int32))), .val (.int (3 : Int32)), .val (.int (128 : Int32)), .val (.int (191 : Int32)), .val (.int (3 : Int32)), .val (.int (own_j3_167_0_v1 i3 e2_r1))] [(.int (3 : Int32)), (.int (0 : Int32)), (.int (3 : Int32))])) _
                  refine XS.iadd X0.here hx rfl (hb hby d3_160) rfl ?_
                  show Steps p.tables e below (s₁.setTop (mkF m 161 #[.val (.ref r1), .val (.int (0 : Int32)), .val (.int i3), .val (.int (e0_r1 &&& (255 : Int32))), .val (.int (3 : Int32)), .val (.int (128 : Int32)), .val (.int (191 : Int32)), .val (.int (3 : Int32)), .val (.int (own_j3_167_0_v1 i3 e2_r1))] [(.int (3 : Int32)), (.int (3 : Int32))])) _
                  refine XS.icmpYes X0.here hx rfl (pc0 := 161) (pc' := 219) rfl (hb hby d3_161) rfl (flt (by decide : ¬ ((3 : Int32) < (3 : Int32)))).2.1 (by decide) (by decide) ?_
                  show Steps p.tables e below (s₁.setTop (mkF m 219 #[.val (.ref r1), .val (.int (0 : Int32)), .val (.int i3), .val (.int (e0_r1 &&& (255 : Int32))), .val (.int (3 : Int32)), .val (.int (128 : Int32)), .val (.int (191 : Int32)), .val (.int (3 : Int32)), .val (.int (own_j3_167_0_v1 i3 e2_r1))] [])) _
                  refine XS.iloadN X0.here hx rfl (hb hby d3_219) rfl ?_
                  show Steps p.tables e below (s₁.setTop (mkF m 220 #[.val (.ref r1), .val (.int (0 : Int32)), .val (.int i3), .val (.int (e0_r1 &&& (255 : Int32))), .val (.int (3 : Int32)), .val (.int (128 : Int32)), .val (.int (191 : Int32)), .val (.int (3 : Int32)), .val (.int (own_j3_167_0_v1 i3 e2_r1))] [(.int (0 : Int32))])) _
                  refine XS.iload X0.here hx rfl (hb hby d3_220) rfl ?_
                  show Steps p.tables e below (s₁.setTop (mkF m 222 #[.val (.ref r1), .val (.int (0 : Int32)), .val (.int i3), .val (.int (e0_r1 &&& (255 : Int32))), .val (.int (3 : Int32)), .val (.int (128 : Int32)), .val (.int (191 : Int32)), .val (.int (3 : Int32)), .val (.int (own_j3_167_0_v1 i3 e2_r1))] [(.int (3 : Int32)), (.int (0 : Int32))])) _
                  refine XS.iadd X0.here hx rfl (hb hby d3_222) rfl ?_
                  exact k
                obtain ⟨fs, hr, hrun, hended, hW, hsame⟩ := X0.leave (v := some (.int (3 : Int32))) (fun h => by rw [Bd.returns] at h; cases h)
                refine ⟨_, _, pre93 _ ?_, hrun, hended, _, _, rfl, ?_, ⟨_, rfl⟩, hW, hsame.mono (by decide) (by decide)⟩
                · show Steps p.tables e below (s₁.setTop (mkF m 223 #[.val (.ref r1), .val (.int (0 : Int32)), .val (.int i3), .val (.int (e0_r1 &&& (255 : Int32))), .val (.int (3 : Int32)), .val (.int (128 : Int32)), .val (.int (191 : Int32)), .val (.int (3 : Int32)), .val (.int (own_j3_167_0_v1 i3 e2_r1))] [(.int (3 : Int32))])) _
                  exact retI X0 hx Bd.returns (hb hby d3_223) hr
                · show Q3 Z r1 i3 e0_r1 e1_r1 e2_r1 e3_r1 e4_r1 e5_r1 k_r1 h0 n0 _ s₁.heap _
                  rw [e0]
                  exact ⟨congrArg (fun z => some (Value.int z)) (show (own_r3 i3 e0_r1 e1_r1 e2_r1 e3_r1) = (3 : Int32) from ((if_neg hc22_3).trans ((if_pos hc29_6).trans ((if_neg hc49_8).trans ((if_neg hc188_76).trans ((if_neg hc195_79).trans ((if_neg hc188_88).trans (if_neg hc195_91)))))))).symm, N0, rfl⟩
    · have pre94 : ∀ t, Steps p.tables e below (s₁.setTop (mkF m 167 #[.val (.ref r1), .val (.int (0 : Int32)), .val (.int i3), .val (.int (e0_r1 &&& (255 : Int32))), .val (.int (2 : Int32)), .val (.int (128 : Int32)), .val (.int (191 : Int32)), .val (.int (1 : Int32)), .unset] [(.int i3), (.int (1 : Int32))])) t → Steps p.tables e below (s₁.setTop (entryFrame m #[(.ref r1), (.int (0 : Int32)), (.int i3)] 9)) t := by
        intro t k
        refine pre5 _ ?_
        show Steps p.tables e below (s₁.setTop (mkF m 29 #[.val (.ref r1), .val (.int (0 : Int32)), .val (.int i3), .val (.int (e0_r1 &&& (255 : Int32))), .unset, .val (.int (128 : Int32)), .val (.int (191 : Int32)), .unset, .unset] [(.int (223 : Int32)), (.int (e0_r1 &&& (255 : Int32)))])) _
        refine XS.icmpNo X0.here hx rfl (hb hby d3_29) rfl (flt hc29_6).2.2.1 ?_
        show Steps p.tables e below (s₁.setTop (mkF m 32 #[.val (.ref r1), .val (.int (0 : Int32)), .val (.int i3), .val (.int (e0_r1 &&& (255 : Int32))), .unset, .val (.int (128 : Int32)), .val (.int (191 : Int32)), .unset, .unset] [])) _
        refine XS.iconst X0.here hx rfl (hb hby d3_32) ?_
        show Steps p.tables e below (s₁.setTop (mkF m 33 #[.val (.ref r1), .val (.int (0 : Int32)), .val (.int i3), .val (.int (e0_r1 &&& (255 : Int32))), .unset, .val (.int (128 : Int32)), .val (.int (191 : Int32)), .unset, .unset] [(.int (2 : Int32))])) _
        refine XS.istore X0.here hx rfl (hb hby d3_33) rfl (l' := #[.val (.ref r1), .val (.int (0 : Int32)), .val (.int i3), .val (.int (e0_r1 &&& (255 : Int32))), .val (.int (2 : Int32)), .val (.int (128 : Int32)), .val (.int (191 : Int32)), .unset, .unset]) rfl ?_
        show Steps p.tables e below (s₁.setTop (mkF m 35 #[.val (.ref r1), .val (.int (0 : Int32)), .val (.int i3), .val (.int (e0_r1 &&& (255 : Int32))), .val (.int (2 : Int32)), .val (.int (128 : Int32)), .val (.int (191 : Int32)), .unset, .unset] [])) _
        refine XS.goto X0.here hx rfl (pc0 := 35) (pc' := 150) rfl (hb hby d3_35) (by decide) (by decide) ?_
        show Steps p.tables e below (s₁.setTop (mkF m 150 #[.val (.ref r1), .val (.int (0 : Int32)), .val (.int i3), .val (.int (e0_r1 &&& (255 : Int32))), .val (.int (2 : Int32)), .val (.int (128 : Int32)), .val (.int (191 : Int32)), .unset, .unset] [])) _
        refine XS.iloadN X0.here hx rfl (hb hby d3_150) rfl ?_
        show Steps p.tables e below (s₁.setTop (mkF m 151 #[.val (.ref r1), .val (.int (0 : Int32)), .val (.int i3), .val (.int (e0_r1 &&& (255 : Int32))), .val (.int (2 : Int32)), .val (.int (128 : Int32)), .val (.int (191 : Int32)), .unset, .unset] [(.int (0 : Int32))])) _
        refine XS.iconst X0.here hx rfl (hb hby d3_151) ?_
        show Steps p.tables e below (s₁.setTop (mkF m 152 #[.val (.ref r1), .val (.int (0 : Int32)), .val (.int i3), .val (.int (e0_r1 &&& (255 : Int32))), .val (.int (2 : Int32)), .val (.int (128 : Int32)), .val (.int (191 : Int32)), .unset, .unset] [(.int (1 : Int32)), (.int (0 : Int32))])) _
        refine XS.iadd X0.here hx rfl (hb hby d3_152) rfl ?_
        show Steps p.tables e below (s₁.setTop (mkF m 153 #[.val (.ref r1), .val (.int (0 : Int32)), .val (.int i3), .val (.int (e0_r1 &&& (255 : Int32))), .val (.int (2 : Int32)), .val (.int (128 : Int32)), .val (.int (191 : Int32)), .unset, .unset] [(.int (1 : Int32))])) _
        refine XS.istore X0.here hx rfl (hb hby d3_153) rfl (l' := #[.val (.ref r1), .val (.int (0 : Int32)), .val (.int i3), .val (.int (e0_r1 &&& (255 : Int32))), .val (.int (2 : Int32)), .val (.int (128 : Int32)), .val (.int (191 : Int32)), .val (.int (1 : Int32)), .unset]) rfl ?_
        show Steps p.tables e below (s₁.setTop (mkF m 155 #[.val (.ref r1), .val (.int (0 : Int32)), .val (.int i3), .val (.int (e0_r1 &&& (255 : Int32))), .val (.int (2 : Int32)), .val (.int (128 : Int32)), .val (.int (191 : Int32)), .val (.int (1 : Int32)), .unset] [])) _
        refine XS.iload X0.here hx rfl (hb hby d3_155) rfl ?_
        show Steps p.tables e below (s₁.setTop (mkF m 157 #[.val (.ref r1), .val (.int (0 : Int32)), .val (.int i3), .val (.int (e0_r1 &&& (255 : Int32))), .val (.int (2 : Int32)), .val (.int (128 : Int32)), .val (.int (191 : Int32)), .val (.int (1 : Int32)), .unset] [(.int (1 : Int32))])) _
        refine XS.iloadN X0.here hx rfl (hb hby d3_157) rfl ?_
        show Steps p.tables e below (s₁.setTop (mkF m 158 #[.val (.ref r1), .val (.int (0 : Int32)), .val (.int i3), .val (.int (e0_r1 &&& (255 : Int32))), .val (.int (2 : Int32)), .val (.int (128 : Int32)), .val (.int (191 : Int32)), .val (.int (1 : Int32)), .unset] [(.int (0 : Int32)), (.int (1 : Int32))])) _
        refine XS.iload X0.here hx rfl (hb hby d3_158) rfl ?_
        show Steps p.tables e below (s₁.setTop (mkF m 160 #[.val (.ref r1), .val (.int (0 : Int32)), .val (.int i3), .val (.int (e0_r1 &&& (255 : Int32))), .val (.int (2 : Int32)), .val (.int (128 : Int32)), .val (.int (191 : Int32)), .val (.int (1 : Int32)), .unset] [(.int (2 : Int32)), (.int (0 : Int32)), (.int (1 : Int32))])) _
        refine XS.iadd X0.here hx rfl (hb hby d3_160) rfl ?_
        show Steps p.tables e below (s₁.setTop (mkF m 161 #[.val (.ref r1), .val (.int (0 : Int32)), .val (.int i3), .val (.int (e0_r1 &&& (255 : Int32))), .val (.int (2 : Int32)), .val (.int (128 : Int32)), .val (.int (191 : Int32)), .val (.int (1 : Int32)), .unset] [(.int (2 : Int32)), (.int (1 : Int32))])) _
        refine XS.icmpNo X0.here hx rfl (hb hby d3_161) rfl (tlt (by decide : (1 : Int32) < (2 : Int32))).2.1 ?_
        show Steps p.tables e below (s₁.setTop (mkF m 164 #[.val (.ref r1), .val (.int (0 : Int32)), .val (.int i3), .val (.int (e0_r1 &&& (255 : Int32))), .val (.int (2 : Int32)), .val (.int (128 : Int32)), .val (.int (191 : Int32)), .val (.int (1 : Int32)), .unset] [])) _
        refine XS.iload X0.here hx rfl (hb hby d3_164) rfl ?_
        show Steps p.tables e below (s₁.setTop (mkF m 166 #[.val (.ref r1), .val (.int (0 : Int32)), .val (.int i3), .val (.int (e0_r1 &&& (255 : Int32))), .val (.int (2 : Int32)), .val (.int (128 : Int32)), .val (.int (191 : Int32)), .val (.int (1 : Int32)), .unset] [(.int (1 : Int32))])) _
        refine XS.iloadN X0.here hx rfl (hb hby d3_166) rfl ?_
        exact k
      have pre99 : ∀ t, Steps p.tables e below (s₁.setTop (mkF m 182 #[.val (.ref r1), .val (.int (0 : Int32)), .val (.int i3), .val (.int (e0_r1 &&& (255 : Int32))), .val (.int (2 : Int32)), .val (.int (128 : Int32)), .val (.int (191 : Int32)), .val (.int (1 : Int32)), .unset] [(.int (own_j3_167_0 i3 e1_r1))])) t → Steps p.tables e below (s₁.setTop (entryFrame m #[(.ref r1), (.int (0 : Int32)), (.int i3)] 9)) t := by
        by_cases hc167_95 : (1 : Int32) < i3
        · obtain ⟨cl96, Ar96, Cq96, Sz96, Nn96, Hh96, Gg96⟩ := id V_r1
          have hin96 : ¬ ((1 : Int32) < 0 ∨ cl96.slots.size ≤ ((1 : Int32)).toNatClampNeg) := inb_of Sz96 ⟨by decide, by decide⟩
          have hat96 : cl96.slots[((1 : Int32)).toNatClampNeg]? = some (.int e1_r1) := Hh96.at hin96 rfl
          have pre97 : ∀ t, Steps p.tables e below (s₁.setTop (mkF m 182 #[.val (.ref r1), .val (.int (0 : Int32)), .val (.int i3), .val (.int (e0_r1 &&& (255 : Int32))), .val (.int (2 : Int32)), .val (.int (128 : Int32)), .val (.int (191 : Int32)), .val (.int (1 : Int32)), .unset] [(.int (e1_r1 &&& (255 : Int32)))])) t → Steps p.tables e below (s₁.setTop (entryFrame m #[(.ref r1), (.int (0 : Int32)), (.int i3)] 9)) t := by
            intro t k
            refine pre94 _ ?_
            show Steps p.tables e below (s₁.setTop (mkF m 167 #[.val (.ref r1), .val (.int (0 : Int32)), .val (.int i3), .val (.int (e0_r1 &&& (255 : Int32))), .val (.int (2 : Int32)), .val (.int (128 : Int32)), .val (.int (191 : Int32)), .val (.int (1 : Int32)), .unset] [(.int i3), (.int (1 : Int32))])) _
            refine XS.icmpNo X0.here hx rfl (hb hby d3_167) rfl (tlt hc167_95).2.1 ?_
            show Steps p.tables e below (s₁.setTop (mkF m 170 #[.val (.ref r1), .val (.int (0 : Int32)), .val (.int i3), .val (.int (e0_r1 &&& (255 : Int32))), .val (.int (2 : Int32)), .val (.int (128 : Int32)), .val (.int (191 : Int32)), .val (.int (1 : Int32)), .unset] [])) _
            refine XS.aloadN X0.here hx rfl (hb hby d3_170) rfl rfl ?_
            show Steps p.tables e below (s₁.setTop (mkF m 171 #[.val (.ref r1), .val (.int (0 : Int32)), .val (.int i3), .val (.int (e0_r1 &&& (255 : Int32))), .val (.int (2 : Int32)), .val (.int (128 : Int32)), .val (.int (191 : Int32)), .val (.int (1 : Int32)), .unset] [(.ref r1)])) _
            refine XS.iload X0.here hx rfl (hb hby d3_171) rfl ?_
            show Steps p.tables e below (s₁.setTop (mkF m 173 #[.val (.ref r1), .val (.int (0 : Int32)), .val (.int i3), .val (.int (e0_r1 &&& (255 : Int32))), .val (.int (2 : Int32)), .val (.int (128 : Int32)), .val (.int (191 : Int32)), .val (.int (1 : Int32)), .unset] [(.int (1 : Int32)), (.ref r1)])) _
            refine X0.baloadBytes hx (j := (1 : Int32)) (v := (.int e1_r1)) (by rw [e0]; exact Ar96.1) (State.isArrayOf_alike hZ.alike Ar96.2.1) Ar96.2.2 hin96 hat96 (g := (mkF m 173 #[.val (.ref r1), .val (.int (0 : Int32)), .val (.int i3), .val (.int (e0_r1 &&& (255 : Int32))), .val (.int (2 : Int32)), .val (.int (128 : Int32)), .val (.int (191 : Int32)), .val (.int (1 : Int32)), .unset] [(.int (1 : Int32)), (.ref r1)])) rfl rfl (hb hby d3_173) _ ?_
            show Steps p.tables e below (s₁.setTop (mkF m 174 #[.val (.ref r1), .val (.int (0 : Int32)), .val (.int i3), .val (.int (e0_r1 &&& (255 : Int32))), .val (.int (2 : Int32)), .val (.int (128 : Int32)), .val (.int (191 : Int32)), .val (.int (1 : Int32)), .unset] [(.int e1_r1)])) _
            refine XS.sipush X0.here hx rfl (hb hby d3_174) ?_
            show Steps p.tables e below (s₁.setTop (mkF m 177 #[.val (.ref r1), .val (.int (0 : Int32)), .val (.int i3), .val (.int (e0_r1 &&& (255 : Int32))), .val (.int (2 : Int32)), .val (.int (128 : Int32)), .val (.int (191 : Int32)), .val (.int (1 : Int32)), .unset] [(.int (255 : Int32)), (.int e1_r1)])) _
            refine XS.iand X0.here hx rfl (hb hby d3_177) rfl ?_
            show Steps p.tables e below (s₁.setTop (mkF m 178 #[.val (.ref r1), .val (.int (0 : Int32)), .val (.int i3), .val (.int (e0_r1 &&& (255 : Int32))), .val (.int (2 : Int32)), .val (.int (128 : Int32)), .val (.int (191 : Int32)), .val (.int (1 : Int32)), .unset] [(.int (e1_r1 &&& (255 : Int32)))])) _
            refine XS.goto X0.here hx rfl (pc0 := 178) (pc' := 182) rfl (hb hby d3_178) (by decide) (by decide) ?_
            exact k
          exact fun t k => pre97 t (by rw [show (own_j3_167_0 i3 e1_r1) = (e1_r1 &&& (255 : Int32)) from (if_pos hc167_95)] at k; exact k)
        · have pre98 : ∀ t, Steps p.tables e below (s₁.setTop (mkF m 182 #[.val (.ref r1), .val (.int (0 : Int32)), .val (.int i3), .val (.int (e0_r1 &&& (255 : Int32))), .val (.int (2 : Int32)), .val (.int (128 : Int32)), .val (.int (191 : Int32)), .val (.int (1 : Int32)), .unset] [(.int (-1 : Int32))])) t → Steps p.tables e below (s₁.setTop (entryFrame m #[(.ref r1), (.int (0 : Int32)), (.int i3)] 9)) t := by
            intro t k
            refine pre94 _ ?_
            show Steps p.tables e below (s₁.setTop (mkF m 167 #[.val (.ref r1), .val (.int (0 : Int32)), .val (.int i3), .val (.int (e0_r1 &&& (255 : Int32))), .val (.int (2 : Int32)), .val (.int (128 : Int32)), .val (.int (191 : Int32)), .val (.int (1 : Int32)), .unset] [(.int i3), (.int (1 : Int32))])) _
            refine XS.icmpYes X0.here hx rfl (pc0 := 167) (pc' := 181) rfl (hb hby d3_167) rfl (flt hc167_95).2.1 (by decide) (by decide) ?_
            show Steps p.tables e below (s₁.setTop (mkF m 181 #[.val (.ref r1), .val (.int (0 : Int32)), .val (.int i3), .val (.int (e0_r1 &&& (255 : Int32))), .val (.int (2 : Int32)), .val (.int (128 : Int32)), .val (.int (191 : Int32)), .val (.int (1 : Int32)), .unset] [])) _
            refine XS.iconst X0.here hx rfl (hb hby d3_181) ?_
            exact k
          exact fun t k => pre98 t (by rw [show (own_j3_167_0 i3 e1_r1) = (-1 : Int32) from (if_neg hc167_95)] at k; exact k)
      have pre100 : ∀ t, Steps p.tables e below (s₁.setTop (mkF m 188 #[.val (.ref r1), .val (.int (0 : Int32)), .val (.int i3), .val (.int (e0_r1 &&& (255 : Int32))), .val (.int (2 : Int32)), .val (.int (128 : Int32)), .val (.int (191 : Int32)), .val (.int (1 : Int32)), .val (.int (own_j3_167_0 i3 e1_r1))] [(.int (128 : Int32)), (.int (own_j3_167_0 i3 e1_r1))])) t → Steps p.tables e below (s₁.setTop (entryFrame m #[(.ref r1), (.int (0 : Int32)), (.int i3)] 9)) t := by
        intro t k
        refine pre99 _ ?_
        show Steps p.tables e below (s₁.setTop (mkF m 182 #[.val (.ref r1), .val (.int (0 : Int32)), .val (.int i3), .val (.int (e0_r1 &&& (255 : Int32))), .val (.int (2 : Int32)), .val (.int (128 : Int32)), .val (.int (191 : Int32)), .val (.int (1 : Int32)), .unset] [(.int (own_j3_167_0 i3 e1_r1))])) _
        refine XS.istore X0.here hx rfl (hb hby d3_182) rfl (l' := #[.val (.ref r1), .val (.int (0 : Int32)), .val (.int i3), .val (.int (e0_r1 &&& (255 : Int32))), .val (.int (2 : Int32)), .val (.int (128 : Int32)), .val (.int (191 : Int32)), .val (.int (1 : Int32)), .val (.int (own_j3_167_0 i3 e1_r1))]) rfl ?_
        show Steps p.tables e below (s₁.setTop (mkF m 184 #[.val (.ref r1), .val (.int (0 : Int32)), .val (.int i3), .val (.int (e0_r1 &&& (255 : Int32))), .val (.int (2 : Int32)), .val (.int (128 : Int32)), .val (.int (191 : Int32)), .val (.int (1 : Int32)), .val (.int (own_j3_167_0 i3 e1_r1))] [])) _
        refine XS.iload X0.here hx rfl (hb hby d3_184) rfl ?_
        show Steps p.tables e below (s₁.setTop (mkF m 186 #[.val (.ref r1), .val (.int (0 : Int32)), .val (.int i3), .val (.int (e0_r1 &&& (255 : Int32))), .val (.int (2 : Int32)), .val (.int (128 : Int32)), .val (.int (191 : Int32)), .val (.int (1 : Int32)), .val (.int (own_j3_167_0 i3 e1_r1))] [(.int (own_j3_167_0 i3 e1_r1))])) _
        refine XS.iload X0.here hx rfl (hb hby d3_186) rfl ?_
        exact k
      by_cases hc188_101 : (own_j3_167_0 i3 e1_r1) < (128 : Int32)
      · have pre102 : ∀ t, Steps p.tables e below (s₁.setTop (mkF m 202 #[.val (.ref r1), .val (.int (0 : Int32)), .val (.int i3), .val (.int (e0_r1 &&& (255 : Int32))), .val (.int (2 : Int32)), .val (.int (128 : Int32)), .val (.int (191 : Int32)), .val (.int (1 : Int32)), .val (.int (own_j3_167_0 i3 e1_r1))] [(.int (-2 : Int32))])) t → Steps p.tables e below (s₁.setTop (entryFrame m #[(.ref r1), (.int (0 : Int32)), (.int i3)] 9)) t := by
          intro t k
          refine pre100 _ ?_
          show Steps p.tables e below (s₁.setTop (mkF m 188 #[.val (.ref r1), .val (.int (0 : Int32)), .val (.int i3), .val (.int (e0_r1 &&& (255 : Int32))), .val (.int (2 : Int32)), .val (.int (128 : Int32)), .val (.int (191 : Int32)), .val (.int (1 : Int32)), .val (.int (own_j3_167_0 i3 e1_r1))] [(.int (128 : Int32)), (.int (own_j3_167_0 i3 e1_r1))])) _
          refine XS.icmpYes X0.here hx rfl (pc0 := 188) (pc' := 198) rfl (hb hby d3_188) rfl (tlt hc188_101).1 (by decide) (by decide) ?_
          show Steps p.tables e below (s₁.setTop (mkF m 198 #[.val (.ref r1), .val (.int (0 : Int32)), .val (.int i3), .val (.int (e0_r1 &&& (255 : Int32))), .val (.int (2 : Int32)), .val (.int (128 : Int32)), .val (.int (191 : Int32)), .val (.int (1 : Int32)), .val (.int (own_j3_167_0 i3 e1_r1))] [])) _
          refine XS.iload X0.here hx rfl (hb hby d3_198) rfl ?_
          show Steps p.tables e below (s₁.setTop (mkF m 200 #[.val (.ref r1), .val (.int (0 : Int32)), .val (.int i3), .val (.int (e0_r1 &&& (255 : Int32))), .val (.int (2 : Int32)), .val (.int (128 : Int32)), .val (.int (191 : Int32)), .val (.int (1 : Int32)), .val (.int (own_j3_167_0 i3 e1_r1))] [(.int (1 : Int32))])) _
          refine XS.iconst X0.here hx rfl (hb hby d3_200) ?_
          show Steps p.tables e below (s₁.setTop (mkF m 201 #[.val (.ref r1), .val (.int (0 : Int32)), .val (.int i3), .val (.int (e0_r1 &&& (255 : Int32))), .val (.int (2 : Int32)), .val (.int (128 : Int32)), .val (.int (191 : Int32)), .val (.int (1 : Int32)), .val (.int (own_j3_167_0 i3 e1_r1))] [(.int (-1 : Int32)), (.int (1 : Int32))])) _
          refine XS.ixor X0.here hx rfl (hb hby d3_201) rfl ?_
          exact k
        obtain ⟨fs, hr, hrun, hended, hW, hsame⟩ := X0.leave (v := some (.int (-2 : Int32))) (fun h => by rw [Bd.returns] at h; cases h)
        refine ⟨_, _, pre102 _ ?_, hrun, hended, _, _, rfl, ?_, ⟨_, rfl⟩, hW, hsame.mono (by decide) (by decide)⟩
        · show Steps p.tables e below (s₁.setTop (mkF m 202 #[.val (.ref r1), .val (.int (0 : Int32)), .val (.int i3), .val (.int (e0_r1 &&& (255 : Int32))), .val (.int (2 : Int32)), .val (.int (128 : Int32)), .val (.int (191 : Int32)), .val (.int (1 : Int32)), .val (.int (own_j3_167_0 i3 e1_r1))] [(.int (-2 : Int32))])) _
          exact retI X0 hx Bd.returns (hb hby d3_202) hr
        · show Q3 Z r1 i3 e0_r1 e1_r1 e2_r1 e3_r1 e4_r1 e5_r1 k_r1 h0 n0 _ s₁.heap _
          rw [e0]
          exact ⟨congrArg (fun z => some (Value.int z)) (show (own_r3 i3 e0_r1 e1_r1 e2_r1 e3_r1) = (-2 : Int32) from ((if_neg hc22_3).trans ((if_neg hc29_6).trans (if_pos hc188_101)))).symm, N0, rfl⟩
      · have pre103 : ∀ t, Steps p.tables e below (s₁.setTop (mkF m 195 #[.val (.ref r1), .val (.int (0 : Int32)), .val (.int i3), .val (.int (e0_r1 &&& (255 : Int32))), .val (.int (2 : Int32)), .val (.int (128 : Int32)), .val (.int (191 : Int32)), .val (.int (1 : Int32)), .val (.int (own_j3_167_0 i3 e1_r1))] [(.int (191 : Int32)), (.int (own_j3_167_0 i3 e1_r1))])) t → Steps p.tables e below (s₁.setTop (entryFrame m #[(.ref r1), (.int (0 : Int32)), (.int i3)] 9)) t := by
          intro t k
          refine pre100 _ ?_
          show Steps p.tables e below (s₁.setTop (mkF m 188 #[.val (.ref r1), .val (.int (0 : Int32)), .val (.int i3), .val (.int (e0_r1 &&& (255 : Int32))), .val (.int (2 : Int32)), .val (.int (128 : Int32)), .val (.int (191 : Int32)), .val (.int (1 : Int32)), .val (.int (own_j3_167_0 i3 e1_r1))] [(.int (128 : Int32)), (.int (own_j3_167_0 i3 e1_r1))])) _
          refine XS.icmpNo X0.here hx rfl (hb hby d3_188) rfl (flt hc188_101).1 ?_
          show Steps p.tables e below (s₁.setTop (mkF m 191 #[.val (.ref r1), .val (.int (0 : Int32)), .val (.int i3), .val (.int (e0_r1 &&& (255 : Int32))), .val (.int (2 : Int32)), .val (.int (128 : Int32)), .val (.int (191 : Int32)), .val (.int (1 : Int32)), .val (.int (own_j3_167_0 i3 e1_r1))] [])) _
          refine XS.iload X0.here hx rfl (hb hby d3_191) rfl ?_
          show Steps p.tables e below (s₁.setTop (mkF m 193 #[.val (.ref r1), .val (.int (0 : Int32)), .val (.int i3), .val (.int (e0_r1 &&& (255 : Int32))), .val (.int (2 : Int32)), .val (.int (128 : Int32)), .val (.int (191 : Int32)), .val (.int (1 : Int32)), .val (.int (own_j3_167_0 i3 e1_r1))] [(.int (own_j3_167_0 i3 e1_r1))])) _
          refine XS.iload X0.here hx rfl (hb hby d3_193) rfl ?_
          exact k
        by_cases hc195_104 : (191 : Int32) < (own_j3_167_0 i3 e1_r1)
        · have pre105 : ∀ t, Steps p.tables e below (s₁.setTop (mkF m 202 #[.val (.ref r1), .val (.int (0 : Int32)), .val (.int i3), .val (.int (e0_r1 &&& (255 : Int32))), .val (.int (2 : Int32)), .val (.int (128 : Int32)), .val (.int (191 : Int32)), .val (.int (1 : Int32)), .val (.int (own_j3_167_0 i3 e1_r1))] [(.int (-2 : Int32))])) t → Steps p.tables e below (s₁.setTop (entryFrame m #[(.ref r1), (.int (0 : Int32)), (.int i3)] 9)) t := by
            intro t k
            refine pre103 _ ?_
            show Steps p.tables e below (s₁.setTop (mkF m 195 #[.val (.ref r1), .val (.int (0 : Int32)), .val (.int i3), .val (.int (e0_r1 &&& (255 : Int32))), .val (.int (2 : Int32)), .val (.int (128 : Int32)), .val (.int (191 : Int32)), .val (.int (1 : Int32)), .val (.int (own_j3_167_0 i3 e1_r1))] [(.int (191 : Int32)), (.int (own_j3_167_0 i3 e1_r1))])) _
            refine XS.icmpNo X0.here hx rfl (hb hby d3_195) rfl (tlt hc195_104).2.2.2 ?_
            show Steps p.tables e below (s₁.setTop (mkF m 198 #[.val (.ref r1), .val (.int (0 : Int32)), .val (.int i3), .val (.int (e0_r1 &&& (255 : Int32))), .val (.int (2 : Int32)), .val (.int (128 : Int32)), .val (.int (191 : Int32)), .val (.int (1 : Int32)), .val (.int (own_j3_167_0 i3 e1_r1))] [])) _
            refine XS.iload X0.here hx rfl (hb hby d3_198) rfl ?_
            show Steps p.tables e below (s₁.setTop (mkF m 200 #[.val (.ref r1), .val (.int (0 : Int32)), .val (.int i3), .val (.int (e0_r1 &&& (255 : Int32))), .val (.int (2 : Int32)), .val (.int (128 : Int32)), .val (.int (191 : Int32)), .val (.int (1 : Int32)), .val (.int (own_j3_167_0 i3 e1_r1))] [(.int (1 : Int32))])) _
            refine XS.iconst X0.here hx rfl (hb hby d3_200) ?_
            show Steps p.tables e below (s₁.setTop (mkF m 201 #[.val (.ref r1), .val (.int (0 : Int32)), .val (.int i3), .val (.int (e0_r1 &&& (255 : Int32))), .val (.int (2 : Int32)), .val (.int (128 : Int32)), .val (.int (191 : Int32)), .val (.int (1 : Int32)), .val (.int (own_j3_167_0 i3 e1_r1))] [(.int (-1 : Int32)), (.int (1 : Int32))])) _
            refine XS.ixor X0.here hx rfl (hb hby d3_201) rfl ?_
            exact k
          obtain ⟨fs, hr, hrun, hended, hW, hsame⟩ := X0.leave (v := some (.int (-2 : Int32))) (fun h => by rw [Bd.returns] at h; cases h)
          refine ⟨_, _, pre105 _ ?_, hrun, hended, _, _, rfl, ?_, ⟨_, rfl⟩, hW, hsame.mono (by decide) (by decide)⟩
          · show Steps p.tables e below (s₁.setTop (mkF m 202 #[.val (.ref r1), .val (.int (0 : Int32)), .val (.int i3), .val (.int (e0_r1 &&& (255 : Int32))), .val (.int (2 : Int32)), .val (.int (128 : Int32)), .val (.int (191 : Int32)), .val (.int (1 : Int32)), .val (.int (own_j3_167_0 i3 e1_r1))] [(.int (-2 : Int32))])) _
            exact retI X0 hx Bd.returns (hb hby d3_202) hr
          · show Q3 Z r1 i3 e0_r1 e1_r1 e2_r1 e3_r1 e4_r1 e5_r1 k_r1 h0 n0 _ s₁.heap _
            rw [e0]
            exact ⟨congrArg (fun z => some (Value.int z)) (show (own_r3 i3 e0_r1 e1_r1 e2_r1 e3_r1) = (-2 : Int32) from ((if_neg hc22_3).trans ((if_neg hc29_6).trans ((if_neg hc188_101).trans (if_pos hc195_104))))).symm, N0, rfl⟩
        · have pre106 : ∀ t, Steps p.tables e below (s₁.setTop (mkF m 223 #[.val (.ref r1), .val (.int (0 : Int32)), .val (.int i3), .val (.int (e0_r1 &&& (255 : Int32))), .val (.int (2 : Int32)), .val (.int (128 : Int32)), .val (.int (191 : Int32)), .val (.int (2 : Int32)), .val (.int (own_j3_167_0 i3 e1_r1))] [(.int (2 : Int32))])) t → Steps p.tables e below (s₁.setTop (entryFrame m #[(.ref r1), (.int (0 : Int32)), (.int i3)] 9)) t := by
            intro t k
            refine pre103 _ ?_
            show Steps p.tables e below (s₁.setTop (mkF m 195 #[.val (.ref r1), .val (.int (0 : Int32)), .val (.int i3), .val (.int (e0_r1 &&& (255 : Int32))), .val (.int (2 : Int32)), .val (.int (128 : Int32)), .val (.int (191 : Int32)), .val (.int (1 : Int32)), .val (.int (own_j3_167_0 i3 e1_r1))] [(.int (191 : Int32)), (.int (own_j3_167_0 i3 e1_r1))])) _
            refine XS.icmpYes X0.here hx rfl (pc0 := 195) (pc' := 203) rfl (hb hby d3_195) rfl (flt hc195_104).2.2.2 (by decide) (by decide) ?_
            show Steps p.tables e below (s₁.setTop (mkF m 203 #[.val (.ref r1), .val (.int (0 : Int32)), .val (.int i3), .val (.int (e0_r1 &&& (255 : Int32))), .val (.int (2 : Int32)), .val (.int (128 : Int32)), .val (.int (191 : Int32)), .val (.int (1 : Int32)), .val (.int (own_j3_167_0 i3 e1_r1))] [])) _
            refine XS.sipush X0.here hx rfl (hb hby d3_203) ?_
            show Steps p.tables e below (s₁.setTop (mkF m 206 #[.val (.ref r1), .val (.int (0 : Int32)), .val (.int i3), .val (.int (e0_r1 &&& (255 : Int32))), .val (.int (2 : Int32)), .val (.int (128 : Int32)), .val (.int (191 : Int32)), .val (.int (1 : Int32)), .val (.int (own_j3_167_0 i3 e1_r1))] [(.int (128 : Int32))])) _
            refine XS.istore X0.here hx rfl (hb hby d3_206) rfl (l' := #[.val (.ref r1), .val (.int (0 : Int32)), .val (.int i3), .val (.int (e0_r1 &&& (255 : Int32))), .val (.int (2 : Int32)), .val (.int (128 : Int32)), .val (.int (191 : Int32)), .val (.int (1 : Int32)), .val (.int (own_j3_167_0 i3 e1_r1))]) rfl ?_
            show Steps p.tables e below (s₁.setTop (mkF m 208 #[.val (.ref r1), .val (.int (0 : Int32)), .val (.int i3), .val (.int (e0_r1 &&& (255 : Int32))), .val (.int (2 : Int32)), .val (.int (128 : Int32)), .val (.int (191 : Int32)), .val (.int (1 : Int32)), .val (.int (own_j3_167_0 i3 e1_r1))] [])) _
            refine XS.sipush X0.here hx rfl (hb hby d3_208) ?_
            show Steps p.tables e below (s₁.setTop (mkF m 211 #[.val (.ref r1), .val (.int (0 : Int32)), .val (.int i3), .val (.int (e0_r1 &&& (255 : Int32))), .val (.int (2 : Int32)), .val (.int (128 : Int32)), .val (.int (191 : Int32)), .val (.int (1 : Int32)), .val (.int (own_j3_167_0 i3 e1_r1))] [(.int (191 : Int32))])) _
            refine XS.istore X0.here hx rfl (hb hby d3_211) rfl (l' := #[.val (.ref r1), .val (.int (0 : Int32)), .val (.int i3), .val (.int (e0_r1 &&& (255 : Int32))), .val (.int (2 : Int32)), .val (.int (128 : Int32)), .val (.int (191 : Int32)), .val (.int (1 : Int32)), .val (.int (own_j3_167_0 i3 e1_r1))]) rfl ?_
            show Steps p.tables e below (s₁.setTop (mkF m 213 #[.val (.ref r1), .val (.int (0 : Int32)), .val (.int i3), .val (.int (e0_r1 &&& (255 : Int32))), .val (.int (2 : Int32)), .val (.int (128 : Int32)), .val (.int (191 : Int32)), .val (.int (1 : Int32)), .val (.int (own_j3_167_0 i3 e1_r1))] [])) _
            refine XS.iinc X0.here hx rfl (hb hby d3_213) rfl (l' := #[.val (.ref r1), .val (.int (0 : Int32)), .val (.int i3), .val (.int (e0_r1 &&& (255 : Int32))), .val (.int (2 : Int32)), .val (.int (128 : Int32)), .val (.int (191 : Int32)), .val (.int (2 : Int32)), .val (.int (own_j3_167_0 i3 e1_r1))]) rfl ?_
            show Steps p.tables e below (s₁.setTop (mkF m 216 #[.val (.ref r1), .val (.int (0 : Int32)), .val (.int i3), .val (.int (e0_r1 &&& (255 : Int32))), .val (.int (2 : Int32)), .val (.int (128 : Int32)), .val (.int (191 : Int32)), .val (.int (2 : Int32)), .val (.int (own_j3_167_0 i3 e1_r1))] [])) _
            refine XS.goto X0.here hx rfl (pc0 := 216) (pc' := 155) rfl (hb hby d3_216) (by decide) (by decide) ?_
            show Steps p.tables e below (s₁.setTop (mkF m 155 #[.val (.ref r1), .val (.int (0 : Int32)), .val (.int i3), .val (.int (e0_r1 &&& (255 : Int32))), .val (.int (2 : Int32)), .val (.int (128 : Int32)), .val (.int (191 : Int32)), .val (.int (2 : Int32)), .val (.int (own_j3_167_0 i3 e1_r1))] [])) _
            refine XS.iload X0.here hx rfl (hb hby d3_155) rfl ?_
            show Steps p.tables e below (s₁.setTop (mkF m 157 #[.val (.ref r1), .val (.int (0 : Int32)), .val (.int i3), .val (.int (e0_r1 &&& (255 : Int32))), .val (.int (2 : Int32)), .val (.int (128 : Int32)), .val (.int (191 : Int32)), .val (.int (2 : Int32)), .val (.int (own_j3_167_0 i3 e1_r1))] [(.int (2 : Int32))])) _
            refine XS.iloadN X0.here hx rfl (hb hby d3_157) rfl ?_
            show Steps p.tables e below (s₁.setTop (mkF m 158 #[.val (.ref r1), .val (.int (0 : Int32)), .val (.int i3), .val (.int (e0_r1 &&& (255 : Int32))), .val (.int (2 : Int32)), .val (.int (128 : Int32)), .val (.int (191 : Int32)), .val (.int (2 : Int32)), .val (.int (own_j3_167_0 i3 e1_r1))] [(.int (0 : Int32)), (.int (2 : Int32))])) _
            refine XS.iload X0.here hx rfl (hb hby d3_158) rfl ?_
            show Steps p.tables e below (s₁.setTop (mkF m 160 #[.val (.ref r1), .val (.int (0 : Int32)), .val (.int i3), .val (.int (e0_r1 &&& (255 : Int32))), .val (.int (2 : Int32)), .val (.int (128 : Int32)), .val (.int (191 : Int32)), .val (.int (2 : Int32)), .val (.int (own_j3_167_0 i3 e1_r1))] [(.int (2 : Int32)), (.int (0 : Int32)), (.int (2 : Int32))])) _
            refine XS.iadd X0.here hx rfl (hb hby d3_160) rfl ?_
            show Steps p.tables e below (s₁.setTop (mkF m 161 #[.val (.ref r1), .val (.int (0 : Int32)), .val (.int i3), .val (.int (e0_r1 &&& (255 : Int32))), .val (.int (2 : Int32)), .val (.int (128 : Int32)), .val (.int (191 : Int32)), .val (.int (2 : Int32)), .val (.int (own_j3_167_0 i3 e1_r1))] [(.int (2 : Int32)), (.int (2 : Int32))])) _
            refine XS.icmpYes X0.here hx rfl (pc0 := 161) (pc' := 219) rfl (hb hby d3_161) rfl (flt (by decide : ¬ ((2 : Int32) < (2 : Int32)))).2.1 (by decide) (by decide) ?_
            show Steps p.tables e below (s₁.setTop (mkF m 219 #[.val (.ref r1), .val (.int (0 : Int32)), .val (.int i3), .val (.int (e0_r1 &&& (255 : Int32))), .val (.int (2 : Int32)), .val (.int (128 : Int32)), .val (.int (191 : Int32)), .val (.int (2 : Int32)), .val (.int (own_j3_167_0 i3 e1_r1))] [])) _
            refine XS.iloadN X0.here hx rfl (hb hby d3_219) rfl ?_
            show Steps p.tables e below (s₁.setTop (mkF m 220 #[.val (.ref r1), .val (.int (0 : Int32)), .val (.int i3), .val (.int (e0_r1 &&& (255 : Int32))), .val (.int (2 : Int32)), .val (.int (128 : Int32)), .val (.int (191 : Int32)), .val (.int (2 : Int32)), .val (.int (own_j3_167_0 i3 e1_r1))] [(.int (0 : Int32))])) _
            refine XS.iload X0.here hx rfl (hb hby d3_220) rfl ?_
            show Steps p.tables e below (s₁.setTop (mkF m 222 #[.val (.ref r1), .val (.int (0 : Int32)), .val (.int i3), .val (.int (e0_r1 &&& (255 : Int32))), .val (.int (2 : Int32)), .val (.int (128 : Int32)), .val (.int (191 : Int32)), .val (.int (2 : Int32)), .val (.int (own_j3_167_0 i3 e1_r1))] [(.int (2 : Int32)), (.int (0 : Int32))])) _
            refine XS.iadd X0.here hx rfl (hb hby d3_222) rfl ?_
            exact k
          obtain ⟨fs, hr, hrun, hended, hW, hsame⟩ := X0.leave (v := some (.int (2 : Int32))) (fun h => by rw [Bd.returns] at h; cases h)
          refine ⟨_, _, pre106 _ ?_, hrun, hended, _, _, rfl, ?_, ⟨_, rfl⟩, hW, hsame.mono (by decide) (by decide)⟩
          · show Steps p.tables e below (s₁.setTop (mkF m 223 #[.val (.ref r1), .val (.int (0 : Int32)), .val (.int i3), .val (.int (e0_r1 &&& (255 : Int32))), .val (.int (2 : Int32)), .val (.int (128 : Int32)), .val (.int (191 : Int32)), .val (.int (2 : Int32)), .val (.int (own_j3_167_0 i3 e1_r1))] [(.int (2 : Int32))])) _
            exact retI X0 hx Bd.returns (hb hby d3_223) hr
          · show Q3 Z r1 i3 e0_r1 e1_r1 e2_r1 e3_r1 e4_r1 e5_r1 k_r1 h0 n0 _ s₁.heap _
            rw [e0]
            exact ⟨congrArg (fun z => some (Value.int z)) (show (own_r3 i3 e0_r1 e1_r1 e2_r1 e3_r1) = (2 : Int32) from ((if_neg hc22_3).trans ((if_neg hc29_6).trans ((if_neg hc188_101).trans (if_neg hc195_104))))).symm, N0, rfl⟩
def own_j3a_113_0 (e1_r1 : Int32) : Int32 := (if (e1_r1 &&& (255 : Int32)) = (240 : Int32) then (144 : Int32) else (128 : Int32))
def own_j3a_130_0 (e1_r1 : Int32) : Int32 := (if (e1_r1 &&& (255 : Int32)) = (244 : Int32) then (143 : Int32) else (191 : Int32))
def own_j3a_167_0 (i3 : Int32) (e2_r1 : Int32) : Int32 := (if (2 : Int32) < i3 then (e2_r1 &&& (255 : Int32)) else (-1 : Int32))
def own_j3a_167_0_v1 (i3 : Int32) (e3_r1 : Int32) : Int32 := (if (3 : Int32) < i3 then (e3_r1 &&& (255 : Int32)) else (-1 : Int32))
def own_j3a_167_0_v2 (i3 : Int32) (e4_r1 : Int32) : Int32 := (if (4 : Int32) < i3 then (e4_r1 &&& (255 : Int32)) else (-1 : Int32))
def own_j3a_59_0 (e1_r1 : Int32) : Int32 := (if (e1_r1 &&& (255 : Int32)) = (224 : Int32) then (160 : Int32) else (128 : Int32))
def own_j3a_76_0 (e1_r1 : Int32) : Int32 := (if (e1_r1 &&& (255 : Int32)) = (237 : Int32) then (159 : Int32) else (191 : Int32))
def own_r3a (i3 : Int32) (e1_r1 : Int32) (e2_r1 : Int32) (e3_r1 : Int32) (e4_r1 : Int32) : Int32 := (if (e1_r1 &&& (255 : Int32)) < (194 : Int32) then (-2 : Int32) else (if (223 : Int32) < (e1_r1 &&& (255 : Int32)) then (if (239 : Int32) < (e1_r1 &&& (255 : Int32)) then (if (244 : Int32) < (e1_r1 &&& (255 : Int32)) then (-2 : Int32) else (if (own_j3a_167_0 i3 e2_r1) < (own_j3a_113_0 e1_r1) then (-3 : Int32) else (if (own_j3a_130_0 e1_r1) < (own_j3a_167_0 i3 e2_r1) then (-3 : Int32) else (if (own_j3a_167_0_v1 i3 e3_r1) < (128 : Int32) then (-4 : Int32) else (if (191 : Int32) < (own_j3a_167_0_v1 i3 e3_r1) then (-4 : Int32) else (if (own_j3a_167_0_v2 i3 e4_r1) < (128 : Int32) then (-5 : Int32) else (if (191 : Int32) < (own_j3a_167_0_v2 i3 e4_r1) then (-5 : Int32) else (5 : Int32)))))))) else (if (own_j3a_167_0 i3 e2_r1) < (own_j3a_59_0 e1_r1) then (-3 : Int32) else (if (own_j3a_76_0 e1_r1) < (own_j3a_167_0 i3 e2_r1) then (-3 : Int32) else (if (own_j3a_167_0_v1 i3 e3_r1) < (128 : Int32) then (-4 : Int32) else (if (191 : Int32) < (own_j3a_167_0_v1 i3 e3_r1) then (-4 : Int32) else (4 : Int32)))))) else (if (own_j3a_167_0 i3 e2_r1) < (128 : Int32) then (-3 : Int32) else (if (191 : Int32) < (own_j3a_167_0 i3 e2_r1) then (-3 : Int32) else (3 : Int32)))))
def Q3a (Z : State) (r1 : Addr) (i3 : Int32) (e0_r1 : Int32) (e1_r1 : Int32) (e2_r1 : Int32) (e3_r1 : Int32) (e4_r1 : Int32) (e5_r1 : Int32) (k_r1 : ClassId) (h0 : Heap) (n0 : Nat) (v : Option Value) (h : Heap) (L : List Loc) : Prop := v = some (.int (own_r3a i3 e1_r1 e2_r1 e3_r1 e4_r1)) ∧ Fr n0 L ∧ h = h0
theorem ef_3a (m : MethodId) (x0 : Addr) (x2 : Int32) : entryFrame m #[(.ref x0), (.int (1 : Int32)), (.int x2)] 9 = mkF m 0 #[.val (.ref x0), .val (.int (1 : Int32)), .val (.int x2), .unset, .unset, .unset, .unset, .unset, .unset] [] := by first | (simp [entryFrame, mkF, argsToLocals, Value.category]; done) | rfl
set_option maxRecDepth 65536 in
set_option maxHeartbeats 40000000 in
theorem rm3a (l : Launch) (Z : State) (a0 : Array Value) (hw : ∀ d ∈ tables_1, d.before a0 Z = true) (ws : List Jvm.Cond) (r1 : Addr) (i3 : Int32) (e0_r1 : Int32) (e1_r1 : Int32) (e2_r1 : Int32) (e3_r1 : Int32) (e4_r1 : Int32) (e5_r1 : Int32) (k_r1 : ClassId) (h0 : Heap) (n0 : Nat) (Z0 : n0 ≤ h0.size) (V_r1 : Arv Z h0 r1 k_r1 .byte (6 : Int32) [(.int e0_r1), (.int e1_r1), (.int e2_r1), (.int e3_r1), (.int e4_r1), (.int e5_r1)] (.int (0 : Int32))) :
    MetFree l (⟨"com/example/terseform/terseform/codec/CborTextString", "utf8SequenceEnd", "([BII)I"⟩ : MethodName) (head1 (Jvm.Cond.code (⟨"com/example/terseform/terseform/codec/CborTextString", "utf8SequenceEnd", "([BII)I"⟩ : MethodName) prog_31_method_9_code 9 (some .int) :: ws) ({ frames := 0, cells := 0, slots := 0, locals := 0 } : Room)) (fun a U => a = #[(.ref r1), (.int (1 : Int32)), (.int i3)] ∧ Z.Warmed39 U.vm ∧ U.heap = h0) (fun _ _ _ _ _ => True) (fun _ U o U' => ∃ v L, o = .returned v ∧ Q3a Z r1 i3 e0_r1 e1_r1 e2_r1 e3_r1 e4_r1 e5_r1 k_r1 h0 n0 v U'.heap L ∧ FrameEnd U o U' L ({ frames := 0, cells := 0, slots := 0, locals := 0 } : Room).cells ({ frames := 0, cells := 0, slots := 0, locals := 0 } : Room).slots) := by
  refine MetFree.of_bodySF (plainFor_of_name pn_1) hisR ?_
  intro p e s m args below meth c s₁ Bd hml0 hP hK
  obtain ⟨rfl, hZ, hh⟩ := hP
  have hx := Bd.exec
  have hby := Bd.bytes
  have hml : c.maxLocals = 9 := hml0
  have hown : s.vm.findClass "com/example/terseform/terseform/codec/CborTextString" = some m.cls := findClass_of_methodNamed Bd.named
  have hnm := (name_of_methodNamed Bd.named Bd.method).1
  have X0 : Stand p l e ({ frames := 0, cells := 0, slots := 0, locals := 0 } : Room) s m #[(.ref r1), (.int (1 : Int32)), (.int i3)] below meth c s₁ [] 0 0 := Stand.of_body Bd
  have e0 : s₁.heap = h0 := by rw [← hh, Bd.state]; rfl
  have N0 := Fr.nil n0
  have pre0 : ∀ t, Steps p.tables e below (s₁.setTop (mkF m 0 #[.val (.ref r1), .val (.int (1 : Int32)), .val (.int i3), .unset, .unset, .unset, .unset, .unset, .unset] [])) t → Steps p.tables e below (s₁.setTop (entryFrame m #[(.ref r1), (.int (1 : Int32)), (.int i3)] 9)) t := fun t k => castTop (ef_3a m r1 i3) k
  obtain ⟨cl1, Ar1, Cq1, Sz1, Nn1, Hh1, Gg1⟩ := id V_r1
  have hin1 : ¬ ((1 : Int32) < 0 ∨ cl1.slots.size ≤ ((1 : Int32)).toNatClampNeg) := inb_of Sz1 ⟨by decide, by decide⟩
  have hat1 : cl1.slots[((1 : Int32)).toNatClampNeg]? = some (.int e1_r1) := Hh1.at hin1 rfl
  have pre2 : ∀ t, Steps p.tables e below (s₁.setTop (mkF m 22 #[.val (.ref r1), .val (.int (1 : Int32)), .val (.int i3), .val (.int (e1_r1 &&& (255 : Int32))), .unset, .val (.int (128 : Int32)), .val (.int (191 : Int32)), .unset, .unset] [(.int (194 : Int32)), (.int (e1_r1 &&& (255 : Int32)))])) t → Steps p.tables e below (s₁.setTop (entryFrame m #[(.ref r1), (.int (1 : Int32)), (.int i3)] 9)) t := by
    intro t k
    refine pre0 _ ?_
    show Steps p.tables e below (s₁.setTop (mkF m 0 #[.val (.ref r1), .val (.int (1 : Int32)), .val (.int i3), .unset, .unset, .unset, .unset, .unset, .unset] [])) _
    refine XS.aloadN X0.here hx rfl (hb hby d3_0) rfl rfl ?_
    show Steps p.tables e below (s₁.setTop (mkF m 1 #[.val (.ref r1), .val (.int (1 : Int32)), .val (.int i3), .unset, .unset, .unset, .unset, .unset, .unset] [(.ref r1)])) _
    refine XS.iloadN X0.here hx rfl (hb hby d3_1) rfl ?_
    show Steps p.tables e below (s₁.setTop (mkF m 2 #[.val (.ref r1), .val (.int (1 : Int32)), .val (.int i3), .unset, .unset, .unset, .unset, .unset, .unset] [(.int (1 : Int32)), (.ref r1)])) _
    refine X0.baloadBytes hx (j := (1 : Int32)) (v := (.int e1_r1)) (by rw [e0]; exact Ar1.1) (State.isArrayOf_alike hZ.alike Ar1.2.1) Ar1.2.2 hin1 hat1 (g := (mkF m 2 #[.val (.ref r1), .val (.int (1 : Int32)), .val (.int i3), .unset, .unset, .unset, .unset, .unset, .unset] [(.int (1 : Int32)), (.ref r1)])) rfl rfl (hb hby d3_2) _ ?_
    show Steps p.tables e below (s₁.setTop (mkF m 3 #[.val (.ref r1), .val (.int (1 : Int32)), .val (.int i3), .unset, .unset, .unset, .unset, .unset, .unset] [(.int e1_r1)])) _
    refine XS.sipush X0.here hx rfl (hb hby d3_3) ?_
    show Steps p.tables e below (s₁.setTop (mkF m 6 #[.val (.ref r1), .val (.int (1 : Int32)), .val (.int i3), .unset, .unset, .unset, .unset, .unset, .unset] [(.int (255 : Int32)), (.int e1_r1)])) _
    refine XS.iand X0.here hx rfl (hb hby d3_6) rfl ?_
    show Steps p.tables e below (s₁.setTop (mkF m 7 #[.val (.ref r1), .val (.int (1 : Int32)), .val (.int i3), .unset, .unset, .unset, .unset, .unset, .unset] [(.int (e1_r1 &&& (255 : Int32)))])) _
    refine XS.istoreN X0.here hx rfl (hb hby d3_7) rfl (l' := #[.val (.ref r1), .val (.int (1 : Int32)), .val (.int i3), .val (.int (e1_r1 &&& (255 : Int32))), .unset, .unset, .unset, .unset, .unset]) rfl ?_
    show Steps p.tables e below (s₁.setTop (mkF m 8 #[.val (.ref r1), .val (.int (1 : Int32)), .val (.int i3), .val (.int (e1_r1 &&& (255 : Int32))), .unset, .unset, .unset, .unset, .unset] [])) _
    refine XS.sipush X0.here hx rfl (hb hby d3_8) ?_
    show Steps p.tables e below (s₁.setTop (mkF m 11 #[.val (.ref r1), .val (.int (1 : Int32)), .val (.int i3), .val (.int (e1_r1 &&& (255 : Int32))), .unset, .unset, .unset, .unset, .unset] [(.int (128 : Int32))])) _
    refine XS.istore X0.here hx rfl (hb hby d3_11) rfl (l' := #[.val (.ref r1), .val (.int (1 : Int32)), .val (.int i3), .val (.int (e1_r1 &&& (255 : Int32))), .unset, .val (.int (128 : Int32)), .unset, .unset, .unset]) rfl ?_
    show Steps p.tables e below (s₁.setTop (mkF m 13 #[.val (.ref r1), .val (.int (1 : Int32)), .val (.int i3), .val (.int (e1_r1 &&& (255 : Int32))), .unset, .val (.int (128 : Int32)), .unset, .unset, .unset] [])) _
    refine XS.sipush X0.here hx rfl (hb hby d3_13) ?_
    show Steps p.tables e below (s₁.setTop (mkF m 16 #[.val (.ref r1), .val (.int (1 : Int32)), .val (.int i3), .val (.int (e1_r1 &&& (255 : Int32))), .unset, .val (.int (128 : Int32)), .unset, .unset, .unset] [(.int (191 : Int32))])) _
    refine XS.istore X0.here hx rfl (hb hby d3_16) rfl (l' := #[.val (.ref r1), .val (.int (1 : Int32)), .val (.int i3), .val (.int (e1_r1 &&& (255 : Int32))), .unset, .val (.int (128 : Int32)), .val (.int (191 : Int32)), .unset, .unset]) rfl ?_
    show Steps p.tables e below (s₁.setTop (mkF m 18 #[.val (.ref r1), .val (.int (1 : Int32)), .val (.int i3), .val (.int (e1_r1 &&& (255 : Int32))), .unset, .val (.int (128 : Int32)), .val (.int (191 : Int32)), .unset, .unset] [])) _
    refine XS.iloadN X0.here hx rfl (hb hby d3_18) rfl ?_
    show Steps p.tables e below (s₁.setTop (mkF m 19 #[.val (.ref r1), .val (.int (1 : Int32)), .val (.int i3), .val (.int (e1_r1 &&& (255 : Int32))), .unset, .val (.int (128 : Int32)), .val (.int (191 : Int32)), .unset, .unset] [(.int (e1_r1 &&& (255 : Int32)))])) _
    refine XS.sipush X0.here hx rfl (hb hby d3_19) ?_
    exact k
  by_cases hc22_3 : (e1_r1 &&& (255 : Int32)) < (194 : Int32)
  · have pre4 : ∀ t, Steps p.tables e below (s₁.setTop (mkF m 149 #[.val (.ref r1), .val (.int (1 : Int32)), .val (.int i3), .val (.int (e1_r1 &&& (255 : Int32))), .unset, .val (.int (128 : Int32)), .val (.int (191 : Int32)), .unset, .unset] [(.int (-2 : Int32))])) t → Steps p.tables e below (s₁.setTop (entryFrame m #[(.ref r1), (.int (1 : Int32)), (.int i3)] 9)) t := by
      intro t k
      refine pre2 _ ?_
      show Steps p.tables e below (s₁.setTop (mkF m 22 #[.val (.ref r1), .val (.int (1 : Int32)), .val (.int i3), .val (.int (e1_r1 &&& (255 : Int32))), .unset, .val (.int (128 : Int32)), .val (.int (191 : Int32)), .unset, .unset] [(.int (194 : Int32)), (.int (e1_r1 &&& (255 : Int32)))])) _
      refine XS.icmpYes X0.here hx rfl (pc0 := 22) (pc' := 38) rfl (hb hby d3_22) rfl (tlt hc22_3).1 (by decide) (by decide) ?_
      show Steps p.tables e below (s₁.setTop (mkF m 38 #[.val (.ref r1), .val (.int (1 : Int32)), .val (.int i3), .val (.int (e1_r1 &&& (255 : Int32))), .unset, .val (.int (128 : Int32)), .val (.int (191 : Int32)), .unset, .unset] [])) _
      refine XS.iloadN X0.here hx rfl (hb hby d3_38) rfl ?_
      show Steps p.tables e below (s₁.setTop (mkF m 39 #[.val (.ref r1), .val (.int (1 : Int32)), .val (.int i3), .val (.int (e1_r1 &&& (255 : Int32))), .unset, .val (.int (128 : Int32)), .val (.int (191 : Int32)), .unset, .unset] [(.int (e1_r1 &&& (255 : Int32)))])) _
      refine XS.sipush X0.here hx rfl (hb hby d3_39) ?_
      show Steps p.tables e below (s₁.setTop (mkF m 42 #[.val (.ref r1), .val (.int (1 : Int32)), .val (.int i3), .val (.int (e1_r1 &&& (255 : Int32))), .unset, .val (.int (128 : Int32)), .val (.int (191 : Int32)), .unset, .unset] [(.int (224 : Int32)), (.int (e1_r1 &&& (255 : Int32)))])) _
      refine XS.icmpYes X0.here hx rfl (pc0 := 42) (pc' := 92) rfl (hb hby d3_42) rfl (tlt (own_iv0 (e1_r1 &&& (255 : Int32)) hc22_3)).1 (by decide) (by decide) ?_
      show Steps p.tables e below (s₁.setTop (mkF m 92 #[.val (.ref r1), .val (.int (1 : Int32)), .val (.int i3), .val (.int (e1_r1 &&& (255 : Int32))), .unset, .val (.int (128 : Int32)), .val (.int (191 : Int32)), .unset, .unset] [])) _
      refine XS.iloadN X0.here hx rfl (hb hby d3_92) rfl ?_
      show Steps p.tables e below (s₁.setTop (mkF m 93 #[.val (.ref r1), .val (.int (1 : Int32)), .val (.int i3), .val (.int (e1_r1 &&& (255 : Int32))), .unset, .val (.int (128 : Int32)), .val (.int (191 : Int32)), .unset, .unset] [(.int (e1_r1 &&& (255 : Int32)))])) _
      refine XS.sipush X0.here hx rfl (hb hby d3_93) ?_
      show Steps p.tables e below (s₁.setTop (mkF m 96 #[.val (.ref r1), .val (.int (1 : Int32)), .val (.int i3), .val (.int (e1_r1 &&& (255 : Int32))), .unset, .val (.int (128 : Int32)), .val (.int (191 : Int32)), .unset, .unset] [(.int (240 : Int32)), (.int (e1_r1 &&& (255 : Int32)))])) _
      refine XS.icmpYes X0.here hx rfl (pc0 := 96) (pc' := 146) rfl (hb hby d3_96) rfl (tlt (own_iv1 (e1_r1 &&& (255 : Int32)) hc22_3)).1 (by decide) (by decide) ?_
      show Steps p.tables e below (s₁.setTop (mkF m 146 #[.val (.ref r1), .val (.int (1 : Int32)), .val (.int i3), .val (.int (e1_r1 &&& (255 : Int32))), .unset, .val (.int (128 : Int32)), .val (.int (191 : Int32)), .unset, .unset] [])) _
      refine XS.iloadN X0.here hx rfl (hb hby d3_146) rfl ?_
      show Steps p.tables e below (s₁.setTop (mkF m 147 #[.val (.ref r1), .val (.int (1 : Int32)), .val (.int i3), .val (.int (e1_r1 &&& (255 : Int32))), .unset, .val (.int (128 : Int32)), .val (.int (191 : Int32)), .unset, .unset] [(.int (1 : Int32))])) _
      refine XS.iconst X0.here hx rfl (hb hby d3_147) ?_
      show Steps p.tables e below (s₁.setTop (mkF m 148 #[.val (.ref r1), .val (.int (1 : Int32)), .val (.int i3), .val (.int (e1_r1 &&& (255 : Int32))), .unset, .val (.int (128 : Int32)), .val (.int (191 : Int32)), .unset, .unset] [(.int (-1 : Int32)), (.int (1 : Int32))])) _
      refine XS.ixor X0.here hx rfl (hb hby d3_148) rfl ?_
      exact k
    obtain ⟨fs, hr, hrun, hended, hW, hsame⟩ := X0.leave (v := some (.int (-2 : Int32))) (fun h => by rw [Bd.returns] at h; cases h)
    refine ⟨_, _, pre4 _ ?_, hrun, hended, _, _, rfl, ?_, ⟨_, rfl⟩, hW, hsame.mono (by decide) (by decide)⟩
    · show Steps p.tables e below (s₁.setTop (mkF m 149 #[.val (.ref r1), .val (.int (1 : Int32)), .val (.int i3), .val (.int (e1_r1 &&& (255 : Int32))), .unset, .val (.int (128 : Int32)), .val (.int (191 : Int32)), .unset, .unset] [(.int (-2 : Int32))])) _
      exact retI X0 hx Bd.returns (hb hby d3_149) hr
    · show Q3a Z r1 i3 e0_r1 e1_r1 e2_r1 e3_r1 e4_r1 e5_r1 k_r1 h0 n0 _ s₁.heap _
      rw [e0]
      exact ⟨congrArg (fun z => some (Value.int z)) (show (own_r3a i3 e1_r1 e2_r1 e3_r1 e4_r1) = (-2 : Int32) from (if_pos hc22_3)).symm, N0, rfl⟩
  · have pre5 : ∀ t, Steps p.tables e below (s₁.setTop (mkF m 29 #[.val (.ref r1), .val (.int (1 : Int32)), .val (.int i3), .val (.int (e1_r1 &&& (255 : Int32))), .unset, .val (.int (128 : Int32)), .val (.int (191 : Int32)), .unset, .unset] [(.int (223 : Int32)), (.int (e1_r1 &&& (255 : Int32)))])) t → Steps p.tables e below (s₁.setTop (entryFrame m #[(.ref r1), (.int (1 : Int32)), (.int i3)] 9)) t := by
      intro t k
      refine pre2 _ ?_
      show Steps p.tables e below (s₁.setTop (mkF m 22 #[.val (.ref r1), .val (.int (1 : Int32)), .val (.int i3), .val (.int (e1_r1 &&& (255 : Int32))), .unset, .val (.int (128 : Int32)), .val (.int (191 : Int32)), .unset, .unset] [(.int (194 : Int32)), (.int (e1_r1 &&& (255 : Int32)))])) _
      refine XS.icmpNo X0.here hx rfl (hb hby d3_22) rfl (flt hc22_3).1 ?_
      show Steps p.tables e below (s₁.setTop (mkF m 25 #[.val (.ref r1), .val (.int (1 : Int32)), .val (.int i3), .val (.int (e1_r1 &&& (255 : Int32))), .unset, .val (.int (128 : Int32)), .val (.int (191 : Int32)), .unset, .unset] [])) _
      refine XS.iloadN X0.here hx rfl (hb hby d3_25) rfl ?_
      show Steps p.tables e below (s₁.setTop (mkF m 26 #[.val (.ref r1), .val (.int (1 : Int32)), .val (.int i3), .val (.int (e1_r1 &&& (255 : Int32))), .unset, .val (.int (128 : Int32)), .val (.int (191 : Int32)), .unset, .unset] [(.int (e1_r1 &&& (255 : Int32)))])) _
      refine XS.sipush X0.here hx rfl (hb hby d3_26) ?_
      exact k
    by_cases hc29_6 : (223 : Int32) < (e1_r1 &&& (255 : Int32))
    · have pre7 : ∀ t, Steps p.tables e below (s₁.setTop (mkF m 49 #[.val (.ref r1), .val (.int (1 : Int32)), .val (.int i3), .val (.int (e1_r1 &&& (255 : Int32))), .unset, .val (.int (128 : Int32)), .val (.int (191 : Int32)), .unset, .unset] [(.int (239 : Int32)), (.int (e1_r1 &&& (255 : Int32)))])) t → Steps p.tables e below (s₁.setTop (entryFrame m #[(.ref r1), (.int (1 : Int32)), (.int i3)] 9)) t := by
        intro t k
        refine pre5 _ ?_
        show Steps p.tables e below (s₁.setTop (mkF m 29 #[.val (.ref r1), .val (.int (1 : Int32)), .val (.int i3), .val (.int (e1_r1 &&& (255 : Int32))), .unset, .val (.int (128 : Int32)), .val (.int (191 : Int32)), .unset, .unset] [(.int (223 : Int32)), (.int (e1_r1 &&& (255 : Int32)))])) _
        refine XS.icmpYes X0.here hx rfl (pc0 := 29) (pc' := 38) rfl (hb hby d3_29) rfl (tlt hc29_6).2.2.1 (by decide) (by decide) ?_
        show Steps p.tables e below (s₁.setTop (mkF m 38 #[.val (.ref r1), .val (.int (1 : Int32)), .val (.int i3), .val (.int (e1_r1 &&& (255 : Int32))), .unset, .val (.int (128 : Int32)), .val (.int (191 : Int32)), .unset, .unset] [])) _
        refine XS.iloadN X0.here hx rfl (hb hby d3_38) rfl ?_
        show Steps p.tables e below (s₁.setTop (mkF m 39 #[.val (.ref r1), .val (.int (1 : Int32)), .val (.int i3), .val (.int (e1_r1 &&& (255 : Int32))), .unset, .val (.int (128 : Int32)), .val (.int (191 : Int32)), .unset, .unset] [(.int (e1_r1 &&& (255 : Int32)))])) _
        refine XS.sipush X0.here hx rfl (hb hby d3_39) ?_
        show Steps p.tables e below (s₁.setTop (mkF m 42 #[.val (.ref r1), .val (.int (1 : Int32)), .val (.int i3), .val (.int (e1_r1 &&& (255 : Int32))), .unset, .val (.int (128 : Int32)), .val (.int (191 : Int32)), .unset, .unset] [(.int (224 : Int32)), (.int (e1_r1 &&& (255 : Int32)))])) _
        refine XS.icmpNo X0.here hx rfl (hb hby d3_42) rfl (flt (own_iv2 (e1_r1 &&& (255 : Int32)) hc22_3 hc29_6)).1 ?_
        show Steps p.tables e below (s₁.setTop (mkF m 45 #[.val (.ref r1), .val (.int (1 : Int32)), .val (.int i3), .val (.int (e1_r1 &&& (255 : Int32))), .unset, .val (.int (128 : Int32)), .val (.int (191 : Int32)), .unset, .unset] [])) _
        refine XS.iloadN X0.here hx rfl (hb hby d3_45) rfl ?_
        show Steps p.tables e below (s₁.setTop (mkF m 46 #[.val (.ref r1), .val (.int (1 : Int32)), .val (.int i3), .val (.int (e1_r1 &&& (255 : Int32))), .unset, .val (.int (128 : Int32)), .val (.int (191 : Int32)), .unset, .unset] [(.int (e1_r1 &&& (255 : Int32)))])) _
        refine XS.sipush X0.here hx rfl (hb hby d3_46) ?_
        exact k
      by_cases hc49_8 : (239 : Int32) < (e1_r1 &&& (255 : Int32))
      · have pre9 : ∀ t, Steps p.tables e below (s₁.setTop (mkF m 103 #[.val (.ref r1), .val (.int (1 : Int32)), .val (.int i3), .val (.int (e1_r1 &&& (255 : Int32))), .unset, .val (.int (128 : Int32)), .val (.int (191 : Int32)), .unset, .unset] [(.int (244 : Int32)), (.int (e1_r1 &&& (255 : Int32)))])) t → Steps p.tables e below (s₁.setTop (entryFrame m #[(.ref r1), (.int (1 : Int32)), (.int i3)] 9)) t := by
          intro t k
          refine pre7 _ ?_
          show Steps p.tables e below (s₁.setTop (mkF m 49 #[.val (.ref r1), .val (.int (1 : Int32)), .val (.int i3), .val (.int (e1_r1 &&& (255 : Int32))), .unset, .val (.int (128 : Int32)), .val (.int (191 : Int32)), .unset, .unset] [(.int (239 : Int32)), (.int (e1_r1 &&& (255 : Int32)))])) _
          refine XS.icmpYes X0.here hx rfl (pc0 := 49) (pc' := 92) rfl (hb hby d3_49) rfl (tlt hc49_8).2.2.1 (by decide) (by decide) ?_
          show Steps p.tables e below (s₁.setTop (mkF m 92 #[.val (.ref r1), .val (.int (1 : Int32)), .val (.int i3), .val (.int (e1_r1 &&& (255 : Int32))), .unset, .val (.int (128 : Int32)), .val (.int (191 : Int32)), .unset, .unset] [])) _
          refine XS.iloadN X0.here hx rfl (hb hby d3_92) rfl ?_
          show Steps p.tables e below (s₁.setTop (mkF m 93 #[.val (.ref r1), .val (.int (1 : Int32)), .val (.int i3), .val (.int (e1_r1 &&& (255 : Int32))), .unset, .val (.int (128 : Int32)), .val (.int (191 : Int32)), .unset, .unset] [(.int (e1_r1 &&& (255 : Int32)))])) _
          refine XS.sipush X0.here hx rfl (hb hby d3_93) ?_
          show Steps p.tables e below (s₁.setTop (mkF m 96 #[.val (.ref r1), .val (.int (1 : Int32)), .val (.int i3), .val (.int (e1_r1 &&& (255 : Int32))), .unset, .val (.int (128 : Int32)), .val (.int (191 : Int32)), .unset, .unset] [(.int (240 : Int32)), (.int (e1_r1 &&& (255 : Int32)))])) _
          refine XS.icmpNo X0.here hx rfl (hb hby d3_96) rfl (flt (own_iv3 (e1_r1 &&& (255 : Int32)) hc22_3 hc29_6 hc49_8)).1 ?_
          show Steps p.tables e below (s₁.setTop (mkF m 99 #[.val (.ref r1), .val (.int (1 : Int32)), .val (.int i3), .val (.int (e1_r1 &&& (255 : Int32))), .unset, .val (.int (128 : Int32)), .val (.int (191 : Int32)), .unset, .unset] [])) _
          refine XS.iloadN X0.here hx rfl (hb hby d3_99) rfl ?_
          show Steps p.tables e below (s₁.setTop (mkF m 100 #[.val (.ref r1), .val (.int (1 : Int32)), .val (.int i3), .val (.int (e1_r1 &&& (255 : Int32))), .unset, .val (.int (128 : Int32)), .val (.int (191 : Int32)), .unset, .unset] [(.int (e1_r1 &&& (255 : Int32)))])) _
          refine XS.sipush X0.here hx rfl (hb hby d3_100) ?_
          exact k
        by_cases hc103_10 : (244 : Int32) < (e1_r1 &&& (255 : Int32))
        · have pre11 : ∀ t, Steps p.tables e below (s₁.setTop (mkF m 149 #[.val (.ref r1), .val (.int (1 : Int32)), .val (.int i3), .val (.int (e1_r1 &&& (255 : Int32))), .unset, .val (.int (128 : Int32)), .val (.int (191 : Int32)), .unset, .unset] [(.int (-2 : Int32))])) t → Steps p.tables e below (s₁.setTop (entryFrame m #[(.ref r1), (.int (1 : Int32)), (.int i3)] 9)) t := by
            intro t k
            refine pre9 _ ?_
            show Steps p.tables e below (s₁.setTop (mkF m 103 #[.val (.ref r1), .val (.int (1 : Int32)), .val (.int i3), .val (.int (e1_r1 &&& (255 : Int32))), .unset, .val (.int (128 : Int32)), .val (.int (191 : Int32)), .unset, .unset] [(.int (244 : Int32)), (.int (e1_r1 &&& (255 : Int32)))])) _
            refine XS.icmpYes X0.here hx rfl (pc0 := 103) (pc' := 146) rfl (hb hby d3_103) rfl (tlt hc103_10).2.2.1 (by decide) (by decide) ?_
            show Steps p.tables e below (s₁.setTop (mkF m 146 #[.val (.ref r1), .val (.int (1 : Int32)), .val (.int i3), .val (.int (e1_r1 &&& (255 : Int32))), .unset, .val (.int (128 : Int32)), .val (.int (191 : Int32)), .unset, .unset] [])) _
            refine XS.iloadN X0.here hx rfl (hb hby d3_146) rfl ?_
            show Steps p.tables e below (s₁.setTop (mkF m 147 #[.val (.ref r1), .val (.int (1 : Int32)), .val (.int i3), .val (.int (e1_r1 &&& (255 : Int32))), .unset, .val (.int (128 : Int32)), .val (.int (191 : Int32)), .unset, .unset] [(.int (1 : Int32))])) _
            refine XS.iconst X0.here hx rfl (hb hby d3_147) ?_
            show Steps p.tables e below (s₁.setTop (mkF m 148 #[.val (.ref r1), .val (.int (1 : Int32)), .val (.int i3), .val (.int (e1_r1 &&& (255 : Int32))), .unset, .val (.int (128 : Int32)), .val (.int (191 : Int32)), .unset, .unset] [(.int (-1 : Int32)), (.int (1 : Int32))])) _
            refine XS.ixor X0.here hx rfl (hb hby d3_148) rfl ?_
            exact k
          obtain ⟨fs, hr, hrun, hended, hW, hsame⟩ := X0.leave (v := some (.int (-2 : Int32))) (fun h => by rw [Bd.returns] at h; cases h)
          refine ⟨_, _, pre11 _ ?_, hrun, hended, _, _, rfl, ?_, ⟨_, rfl⟩, hW, hsame.mono (by decide) (by decide)⟩
          · show Steps p.tables e below (s₁.setTop (mkF m 149 #[.val (.ref r1), .val (.int (1 : Int32)), .val (.int i3), .val (.int (e1_r1 &&& (255 : Int32))), .unset, .val (.int (128 : Int32)), .val (.int (191 : Int32)), .unset, .unset] [(.int (-2 : Int32))])) _
            exact retI X0 hx Bd.returns (hb hby d3_149) hr
          · show Q3a Z r1 i3 e0_r1 e1_r1 e2_r1 e3_r1 e4_r1 e5_r1 k_r1 h0 n0 _ s₁.heap _
            rw [e0]
            exact ⟨congrArg (fun z => some (Value.int z)) (show (own_r3a i3 e1_r1 e2_r1 e3_r1 e4_r1) = (-2 : Int32) from ((if_neg hc22_3).trans ((if_pos hc29_6).trans ((if_pos hc49_8).trans (if_pos hc103_10))))).symm, N0, rfl⟩
        · have pre12 : ∀ t, Steps p.tables e below (s₁.setTop (mkF m 113 #[.val (.ref r1), .val (.int (1 : Int32)), .val (.int i3), .val (.int (e1_r1 &&& (255 : Int32))), .val (.int (4 : Int32)), .val (.int (128 : Int32)), .val (.int (191 : Int32)), .unset, .unset] [(.int (240 : Int32)), (.int (e1_r1 &&& (255 : Int32)))])) t → Steps p.tables e below (s₁.setTop (entryFrame m #[(.ref r1), (.int (1 : Int32)), (.int i3)] 9)) t := by
            intro t k
            refine pre9 _ ?_
            show Steps p.tables e below (s₁.setTop (mkF m 103 #[.val (.ref r1), .val (.int (1 : Int32)), .val (.int i3), .val (.int (e1_r1 &&& (255 : Int32))), .unset, .val (.int (128 : Int32)), .val (.int (191 : Int32)), .unset, .unset] [(.int (244 : Int32)), (.int (e1_r1 &&& (255 : Int32)))])) _
            refine XS.icmpNo X0.here hx rfl (hb hby d3_103) rfl (flt hc103_10).2.2.1 ?_
            show Steps p.tables e below (s₁.setTop (mkF m 106 #[.val (.ref r1), .val (.int (1 : Int32)), .val (.int i3), .val (.int (e1_r1 &&& (255 : Int32))), .unset, .val (.int (128 : Int32)), .val (.int (191 : Int32)), .unset, .unset] [])) _
            refine XS.iconst X0.here hx rfl (hb hby d3_106) ?_
            show Steps p.tables e below (s₁.setTop (mkF m 107 #[.val (.ref r1), .val (.int (1 : Int32)), .val (.int i3), .val (.int (e1_r1 &&& (255 : Int32))), .unset, .val (.int (128 : Int32)), .val (.int (191 : Int32)), .unset, .unset] [(.int (4 : Int32))])) _
            refine XS.istore X0.here hx rfl (hb hby d3_107) rfl (l' := #[.val (.ref r1), .val (.int (1 : Int32)), .val (.int i3), .val (.int (e1_r1 &&& (255 : Int32))), .val (.int (4 : Int32)), .val (.int (128 : Int32)), .val (.int (191 : Int32)), .unset, .unset]) rfl ?_
            show Steps p.tables e below (s₁.setTop (mkF m 109 #[.val (.ref r1), .val (.int (1 : Int32)), .val (.int i3), .val (.int (e1_r1 &&& (255 : Int32))), .val (.int (4 : Int32)), .val (.int (128 : Int32)), .val (.int (191 : Int32)), .unset, .unset] [])) _
            refine XS.iloadN X0.here hx rfl (hb hby d3_109) rfl ?_
            show Steps p.tables e below (s₁.setTop (mkF m 110 #[.val (.ref r1), .val (.int (1 : Int32)), .val (.int i3), .val (.int (e1_r1 &&& (255 : Int32))), .val (.int (4 : Int32)), .val (.int (128 : Int32)), .val (.int (191 : Int32)), .unset, .unset] [(.int (e1_r1 &&& (255 : Int32)))])) _
            refine XS.sipush X0.here hx rfl (hb hby d3_110) ?_
            exact k
          have pre16 : ∀ t, Steps p.tables e below (s₁.setTop (mkF m 124 #[.val (.ref r1), .val (.int (1 : Int32)), .val (.int i3), .val (.int (e1_r1 &&& (255 : Int32))), .val (.int (4 : Int32)), .val (.int (128 : Int32)), .val (.int (191 : Int32)), .unset, .unset] [(.int (own_j3a_113_0 e1_r1))])) t → Steps p.tables e below (s₁.setTop (entryFrame m #[(.ref r1), (.int (1 : Int32)), (.int i3)] 9)) t := by
            by_cases hc113_13 : (e1_r1 &&& (255 : Int32)) = (240 : Int32)
            · have pre14 : ∀ t, Steps p.tables e below (s₁.setTop (mkF m 124 #[.val (.ref r1), .val (.int (1 : Int32)), .val (.int i3), .val (.int (e1_r1 &&& (255 : Int32))), .val (.int (4 : Int32)), .val (.int (128 : Int32)), .val (.int (191 : Int32)), .unset, .unset] [(.int (144 : Int32))])) t → Steps p.tables e below (s₁.setTop (entryFrame m #[(.ref r1), (.int (1 : Int32)), (.int i3)] 9)) t := by
                intro t k
                refine pre12 _ ?_
                show Steps p.tables e below (s₁.setTop (mkF m 113 #[.val (.ref r1), .val (.int (1 : Int32)), .val (.int i3), .val (.int (e1_r1 &&& (255 : Int32))), .val (.int (4 : Int32)), .val (.int (128 : Int32)), .val (.int (191 : Int32)), .unset, .unset] [(.int (240 : Int32)), (.int (e1_r1 &&& (255 : Int32)))])) _
                refine XS.icmpNo X0.here hx rfl (hb hby d3_113) rfl (teq hc113_13).2 ?_
                show Steps p.tables e below (s₁.setTop (mkF m 116 #[.val (.ref r1), .val (.int (1 : Int32)), .val (.int i3), .val (.int (e1_r1 &&& (255 : Int32))), .val (.int (4 : Int32)), .val (.int (128 : Int32)), .val (.int (191 : Int32)), .unset, .unset] [])) _
                refine XS.sipush X0.here hx rfl (hb hby d3_116) ?_
                show Steps p.tables e below (s₁.setTop (mkF m 119 #[.val (.ref r1), .val (.int (1 : Int32)), .val (.int i3), .val (.int (e1_r1 &&& (255 : Int32))), .val (.int (4 : Int32)), .val (.int (128 : Int32)), .val (.int (191 : Int32)), .unset, .unset] [(.int (144 : Int32))])) _
                refine XS.goto X0.here hx rfl (pc0 := 119) (pc' := 124) rfl (hb hby d3_119) (by decide) (by decide) ?_
                exact k
              exact fun t k => pre14 t (by rw [show (own_j3a_113_0 e1_r1) = (144 : Int32) from (if_pos hc113_13)] at k; exact k)
            · have pre15 : ∀ t, Steps p.tables e below (s₁.setTop (mkF m 124 #[.val (.ref r1), .val (.int (1 : Int32)), .val (.int i3), .val (.int (e1_r1 &&& (255 : Int32))), .val (.int (4 : Int32)), .val (.int (128 : Int32)), .val (.int (191 : Int32)), .unset, .unset] [(.int (128 : Int32))])) t → Steps p.tables e below (s₁.setTop (entryFrame m #[(.ref r1), (.int (1 : Int32)), (.int i3)] 9)) t := by
                intro t k
                refine pre12 _ ?_
                show Steps p.tables e below (s₁.setTop (mkF m 113 #[.val (.ref r1), .val (.int (1 : Int32)), .val (.int i3), .val (.int (e1_r1 &&& (255 : Int32))), .val (.int (4 : Int32)), .val (.int (128 : Int32)), .val (.int (191 : Int32)), .unset, .unset] [(.int (240 : Int32)), (.int (e1_r1 &&& (255 : Int32)))])) _
                refine XS.icmpYes X0.here hx rfl (pc0 := 113) (pc' := 122) rfl (hb hby d3_113) rfl (feq hc113_13).2 (by decide) (by decide) ?_
                show Steps p.tables e below (s₁.setTop (mkF m 122 #[.val (.ref r1), .val (.int (1 : Int32)), .val (.int i3), .val (.int (e1_r1 &&& (255 : Int32))), .val (.int (4 : Int32)), .val (.int (128 : Int32)), .val (.int (191 : Int32)), .unset, .unset] [])) _
                refine XS.iload X0.here hx rfl (hb hby d3_122) rfl ?_
                exact k
              exact fun t k => pre15 t (by rw [show (own_j3a_113_0 e1_r1) = (128 : Int32) from (if_neg hc113_13)] at k; exact k)
          have pre17 : ∀ t, Steps p.tables e below (s₁.setTop (mkF m 130 #[.val (.ref r1), .val (.int (1 : Int32)), .val (.int i3), .val (.int (e1_r1 &&& (255 : Int32))), .val (.int (4 : Int32)), .val (.int (own_j3a_113_0 e1_r1)), .val (.int (191 : Int32)), .unset, .unset] [(.int (244 : Int32)), (.int (e1_r1 &&& (255 : Int32)))])) t → Steps p.tables e below (s₁.setTop (entryFrame m #[(.ref r1), (.int (1 : Int32)), (.int i3)] 9)) t := by
            intro t k
            refine pre16 _ ?_
            show Steps p.tables e below (s₁.setTop (mkF m 124 #[.val (.ref r1), .val (.int (1 : Int32)), .val (.int i3), .val (.int (e1_r1 &&& (255 : Int32))), .val (.int (4 : Int32)), .val (.int (128 : Int32)), .val (.int (191 : Int32)), .unset, .unset] [(.int (own_j3a_113_0 e1_r1))])) _
            refine XS.istore X0.here hx rfl (hb hby d3_124) rfl (l' := #[.val (.ref r1), .val (.int (1 : Int32)), .val (.int i3), .val (.int (e1_r1 &&& (255 : Int32))), .val (.int (4 : Int32)), .val (.int (own_j3a_113_0 e1_r1)), .val (.int (191 : Int32)), .unset, .unset]) rfl ?_
            show Steps p.tables e below (s₁.setTop (mkF m 126 #[.val (.ref r1), .val (.int (1 : Int32)), .val (.int i3), .val (.int (e1_r1 &&& (255 : Int32))), .val (.int (4 : Int32)), .val (.int (own_j3a_113_0 e1_r1)), .val (.int (191 : Int32)), .unset, .unset] [])) _
            refine XS.iloadN X0.here hx rfl (hb hby d3_126) rfl ?_
            show Steps p.tables e below (s₁.setTop (mkF m 127 #[.val (.ref r1), .val (.int (1 : Int32)), .val (.int i3), .val (.int (e1_r1 &&& (255 : Int32))), .val (.int (4 : Int32)), .val (.int (own_j3a_113_0 e1_r1)), .val (.int (191 : Int32)), .unset, .unset] [(.int (e1_r1 &&& (255 : Int32)))])) _
            refine XS.sipush X0.here hx rfl (hb hby d3_127) ?_
            exact k
          have pre21 : ∀ t, Steps p.tables e below (s₁.setTop (mkF m 141 #[.val (.ref r1), .val (.int (1 : Int32)), .val (.int i3), .val (.int (e1_r1 &&& (255 : Int32))), .val (.int (4 : Int32)), .val (.int (own_j3a_113_0 e1_r1)), .val (.int (191 : Int32)), .unset, .unset] [(.int (own_j3a_130_0 e1_r1))])) t → Steps p.tables e below (s₁.setTop (entryFrame m #[(.ref r1), (.int (1 : Int32)), (.int i3)] 9)) t := by
            by_cases hc130_18 : (e1_r1 &&& (255 : Int32)) = (244 : Int32)
            · have pre19 : ∀ t, Steps p.tables e below (s₁.setTop (mkF m 141 #[.val (.ref r1), .val (.int (1 : Int32)), .val (.int i3), .val (.int (e1_r1 &&& (255 : Int32))), .val (.int (4 : Int32)), .val (.int (own_j3a_113_0 e1_r1)), .val (.int (191 : Int32)), .unset, .unset] [(.int (143 : Int32))])) t → Steps p.tables e below (s₁.setTop (entryFrame m #[(.ref r1), (.int (1 : Int32)), (.int i3)] 9)) t := by
                intro t k
                refine pre17 _ ?_
                show Steps p.tables e below (s₁.setTop (mkF m 130 #[.val (.ref r1), .val (.int (1 : Int32)), .val (.int i3), .val (.int (e1_r1 &&& (255 : Int32))), .val (.int (4 : Int32)), .val (.int (own_j3a_113_0 e1_r1)), .val (.int (191 : Int32)), .unset, .unset] [(.int (244 : Int32)), (.int (e1_r1 &&& (255 : Int32)))])) _
                refine XS.icmpNo X0.here hx rfl (hb hby d3_130) rfl (teq hc130_18).2 ?_
                show Steps p.tables e below (s₁.setTop (mkF m 133 #[.val (.ref r1), .val (.int (1 : Int32)), .val (.int i3), .val (.int (e1_r1 &&& (255 : Int32))), .val (.int (4 : Int32)), .val (.int (own_j3a_113_0 e1_r1)), .val (.int (191 : Int32)), .unset, .unset] [])) _
                refine XS.sipush X0.here hx rfl (hb hby d3_133) ?_
                show Steps p.tables e below (s₁.setTop (mkF m 136 #[.val (.ref r1), .val (.int (1 : Int32)), .val (.int i3), .val (.int (e1_r1 &&& (255 : Int32))), .val (.int (4 : Int32)), .val (.int (own_j3a_113_0 e1_r1)), .val (.int (191 : Int32)), .unset, .unset] [(.int (143 : Int32))])) _
                refine XS.goto X0.here hx rfl (pc0 := 136) (pc' := 141) rfl (hb hby d3_136) (by decide) (by decide) ?_
                exact k
              exact fun t k => pre19 t (by rw [show (own_j3a_130_0 e1_r1) = (143 : Int32) from (if_pos hc130_18)] at k; exact k)
            · have pre20 : ∀ t, Steps p.tables e below (s₁.setTop (mkF m 141 #[.val (.ref r1), .val (.int (1 : Int32)), .val (.int i3), .val (.int (e1_r1 &&& (255 : Int32))), .val (.int (4 : Int32)), .val (.int (own_j3a_113_0 e1_r1)), .val (.int (191 : Int32)), .unset, .unset] [(.int (191 : Int32))])) t → Steps p.tables e below (s₁.setTop (entryFrame m #[(.ref r1), (.int (1 : Int32)), (.int i3)] 9)) t := by
                intro t k
                refine pre17 _ ?_
                show Steps p.tables e below (s₁.setTop (mkF m 130 #[.val (.ref r1), .val (.int (1 : Int32)), .val (.int i3), .val (.int (e1_r1 &&& (255 : Int32))), .val (.int (4 : Int32)), .val (.int (own_j3a_113_0 e1_r1)), .val (.int (191 : Int32)), .unset, .unset] [(.int (244 : Int32)), (.int (e1_r1 &&& (255 : Int32)))])) _
                refine XS.icmpYes X0.here hx rfl (pc0 := 130) (pc' := 139) rfl (hb hby d3_130) rfl (feq hc130_18).2 (by decide) (by decide) ?_
                show Steps p.tables e below (s₁.setTop (mkF m 139 #[.val (.ref r1), .val (.int (1 : Int32)), .val (.int i3), .val (.int (e1_r1 &&& (255 : Int32))), .val (.int (4 : Int32)), .val (.int (own_j3a_113_0 e1_r1)), .val (.int (191 : Int32)), .unset, .unset] [])) _
                refine XS.iload X0.here hx rfl (hb hby d3_139) rfl ?_
                exact k
              exact fun t k => pre20 t (by rw [show (own_j3a_130_0 e1_r1) = (191 : Int32) from (if_neg hc130_18)] at k; exact k)
          have pre22 : ∀ t, Steps p.tables e below (s₁.setTop (mkF m 167 #[.val (.ref r1), .val (.int (1 : Int32)), .val (.int i3), .val (.int (e1_r1 &&& (255 : Int32))), .val (.int (4 : Int32)), .val (.int (own_j3a_113_0 e1_r1)), .val (.int (own_j3a_130_0 e1_r1)), .val (.int (2 : Int32)), .unset] [(.int i3), (.int (2 : Int32))])) t → Steps p.tables e below (s₁.setTop (entryFrame m #[(.ref r1), (.int (1 : Int32)), (.int i3)] 9)) t := by
            intro t k
            refine pre21 _ ?_
            show Steps p.tables e below (s₁.setTop (mkF m 141 #[.val (.ref r1), .val (.int (1 : Int32)), .val (.int i3), .val (.int (e1_r1 &&& (255 : Int32))), .val (.int (4 : Int32)), .val (.int (own_j3a_113_0 e1_r1)), .val (.int (191 : Int32)), .unset, .unset] [(.int (own_j3a_130_0 e1_r1))])) _
            refine XS.istore X0.here hx rfl (hb hby d3_141) rfl (l' := #[.val (.ref r1), .val (.int (1 : Int32)), .val (.int i3), .val (.int (e1_r1 &&& (255 : Int32))), .val (.int (4 : Int32)), .val (.int (own_j3a_113_0 e1_r1)), .val (.int (own_j3a_130_0 e1_r1)), .unset, .unset]) rfl ?_
            show Steps p.tables e below (s₁.setTop (mkF m 143 #[.val (.ref r1), .val (.int (1 : Int32)), .val (.int i3), .val (.int (e1_r1 &&& (255 : Int32))), .val (.int (4 : Int32)), .val (.int (own_j3a_113_0 e1_r1)), .val (.int (own_j3a_130_0 e1_r1)), .unset, .unset] [])) _
            refine XS.goto X0.here hx rfl (pc0 := 143) (pc' := 150) rfl (hb hby d3_143) (by decide) (by decide) ?_
            show Steps p.tables e below (s₁.setTop (mkF m 150 #[.val (.ref r1), .val (.int (1 : Int32)), .val (.int i3), .val (.int (e1_r1 &&& (255 : Int32))), .val (.int (4 : Int32)), .val (.int (own_j3a_113_0 e1_r1)), .val (.int (own_j3a_130_0 e1_r1)), .unset, .unset] [])) _
            refine XS.iloadN X0.here hx rfl (hb hby d3_150) rfl ?_
            show Steps p.tables e below (s₁.setTop (mkF m 151 #[.val (.ref r1), .val (.int (1 : Int32)), .val (.int i3), .val (.int (e1_r1 &&& (255 : Int32))), .val (.int (4 : Int32)), .val (.int (own_j3a_113_0 e1_r1)), .val (.int (own_j3a_130_0 e1_r1)), .unset, .unset] [(.int (1 : Int32))])) _
            refine XS.iconst X0.here hx rfl (hb hby d3_151) ?_
            show Steps p.tables e below (s₁.setTop (mkF m 152 #[.val (.ref r1), .val (.int (1 : Int32)), .val (.int i3), .val (.int (e1_r1 &&& (255 : Int32))), .val (.int (4 : Int32)), .val (.int (own_j3a_113_0 e1_r1)), .val (.int (own_j3a_130_0 e1_r1)), .unset, .unset] [(.int (1 : Int32)), (.int (1 : Int32))])) _
            refine XS.iadd X0.here hx rfl (hb hby d3_152) rfl ?_
            show Steps p.tables e below (s₁.setTop (mkF m 153 #[.val (.ref r1), .val (.int (1 : Int32)), .val (.int i3), .val (.int (e1_r1 &&& (255 : Int32))), .val (.int (4 : Int32)), .val (.int (own_j3a_113_0 e1_r1)), .val (.int (own_j3a_130_0 e1_r1)), .unset, .unset] [(.int (2 : Int32))])) _
            refine XS.istore X0.here hx rfl (hb hby d3_153) rfl (l' := #[.val (.ref r1), .val (.int (1 : Int32)), .val (.int i3), .val (.int (e1_r1 &&& (255 : Int32))), .val (.int (4 : Int32)), .val (.int (own_j3a_113_0 e1_r1)), .val (.int (own_j3a_130_0 e1_r1)), .val (.int (2 : Int32)), .unset]) rfl ?_
            show Steps p.tables e below (s₁.setTop (mkF m 155 #[.val (.ref r1), .val (.int (1 : Int32)), .val (.int i3), .val (.int (e1_r1 &&& (255 : Int32))), .val (.int (4 : Int32)), .val (.int (own_j3a_113_0 e1_r1)), .val (.int (own_j3a_130_0 e1_r1)), .val (.int (2 : Int32)), .unset] [])) _
            refine XS.iload X0.here hx rfl (hb hby d3_155) rfl ?_
            show Steps p.tables e below (s₁.setTop (mkF m 157 #[.val (.ref r1), .val (.int (1 : Int32)), .val (.int i3), .val (.int (e1_r1 &&& (255 : Int32))), .val (.int (4 : Int32)), .val (.int (own_j3a_113_0 e1_r1)), .val (.int (own_j3a_130_0 e1_r1)), .val (.int (2 : Int32)), .unset] [(.int (2 : Int32))])) _
            refine XS.iloadN X0.here hx rfl (hb hby d3_157) rfl ?_
            show Steps p.tables e below (s₁.setTop (mkF m 158 #[.val (.ref r1), .val (.int (1 : Int32)), .val (.int i3), .val (.int (e1_r1 &&& (255 : Int32))), .val (.int (4 : Int32)), .val (.int (own_j3a_113_0 e1_r1)), .val (.int (own_j3a_130_0 e1_r1)), .val (.int (2 : Int32)), .unset] [(.int (1 : Int32)), (.int (2 : Int32))])) _
            refine XS.iload X0.here hx rfl (hb hby d3_158) rfl ?_
            show Steps p.tables e below (s₁.setTop (mkF m 160 #[.val (.ref r1), .val (.int (1 : Int32)), .val (.int i3), .val (.int (e1_r1 &&& (255 : Int32))), .val (.int (4 : Int32)), .val (.int (own_j3a_113_0 e1_r1)), .val (.int (own_j3a_130_0 e1_r1)), .val (.int (2 : Int32)), .unset] [(.int (4 : Int32)), (.int (1 : Int32)), (.int (2 : Int32))])) _
            refine XS.iadd X0.here hx rfl (hb hby d3_160) rfl ?_
            show Steps p.tables e below (s₁.setTop (mkF m 161 #[.val (.ref r1), .val (.int (1 : Int32)), .val (.int i3), .val (.int (e1_r1 &&& (255 : Int32))), .val (.int (4 : Int32)), .val (.int (own_j3a_113_0 e1_r1)), .val (.int (own_j3a_130_0 e1_r1)), .val (.int (2 : Int32)), .unset] [(.int (5 : Int32)), (.int (2 : Int32))])) _
            refine XS.icmpNo X0.here hx rfl (hb hby d3_161) rfl (tlt (by decide : (2 : Int32) < (5 : Int32))).2.1 ?_
            show Steps p.tables e below (s₁.setTop (mkF m 164 #[.val (.ref r1), .val (.int (1 : Int32)), .val (.int i3), .val (.int (e1_r1 &&& (255 : Int32))), .val (.int (4 : Int32)), .val (.int (own_j3a_113_0 e1_r1)), .val (.int (own_j3a_130_0 e1_r1)), .val (.int (2 : Int32)), .unset] [])) _
            refine XS.iload X0.here hx rfl (hb hby d3_164) rfl ?_
            show Steps p.tables e below (s₁.setTop (mkF m 166 #[.val (.ref r1), .val (.int (1 : Int32)), .val (.int i3), .val (.int (e1_r1 &&& (255 : Int32))), .val (.int (4 : Int32)), .val (.int (own_j3a_113_0 e1_r1)), .val (.int (own_j3a_130_0 e1_r1)), .val (.int (2 : Int32)), .unset] [(.int (2 : Int32))])) _
            refine XS.iloadN X0.here hx rfl (hb hby d3_166) rfl ?_
            exact k
          have pre27 : ∀ t, Steps p.tables e below (s₁.setTop (mkF m 182 #[.val (.ref r1), .val (.int (1 : Int32)), .val (.int i3), .val (.int (e1_r1 &&& (255 : Int32))), .val (.int (4 : Int32)), .val (.int (own_j3a_113_0 e1_r1)), .val (.int (own_j3a_130_0 e1_r1)), .val (.int (2 : Int32)), .unset] [(.int (own_j3a_167_0 i3 e2_r1))])) t → Steps p.tables e below (s₁.setTop (entryFrame m #[(.ref r1), (.int (1 : Int32)), (.int i3)] 9)) t := by
            by_cases hc167_23 : (2 : Int32) < i3
            · obtain ⟨cl24, Ar24, Cq24, Sz24, Nn24, Hh24, Gg24⟩ := id V_r1
              have hin24 : ¬ ((2 : Int32) < 0 ∨ cl24.slots.size ≤ ((2 : Int32)).toNatClampNeg) := inb_of Sz24 ⟨by decide, by decide⟩
              have hat24 : cl24.slots[((2 : Int32)).toNatClampNeg]? = some (.int e2_r1) := Hh24.at hin24 rfl
              have pre25 : ∀ t, Steps p.tables e below (s₁.setTop (mkF m 182 #[.val (.ref r1), .val (.int (1 : Int32)), .val (.int i3), .val (.int (e1_r1 &&& (255 : Int32))), .val (.int (4 : Int32)), .val (.int (own_j3a_113_0 e1_r1)), .val (.int (own_j3a_130_0 e1_r1)), .val (.int (2 : Int32)), .unset] [(.int (e2_r1 &&& (255 : Int32)))])) t → Steps p.tables e below (s₁.setTop (entryFrame m #[(.ref r1), (.int (1 : Int32)), (.int i3)] 9)) t := by
                intro t k
                refine pre22 _ ?_
                show Steps p.tables e below (s₁.setTop (mkF m 167 #[.val (.ref r1), .val (.int (1 : Int32)), .val (.int i3), .val (.int (e1_r1 &&& (255 : Int32))), .val (.int (4 : Int32)), .val (.int (own_j3a_113_0 e1_r1)), .val (.int (own_j3a_130_0 e1_r1)), .val (.int (2 : Int32)), .unset] [(.int i3), (.int (2 : Int32))])) _
                refine XS.icmpNo X0.here hx rfl (hb hby d3_167) rfl (tlt hc167_23).2.1 ?_
                show Steps p.tables e below (s₁.setTop (mkF m 170 #[.val (.ref r1), .val (.int (1 : Int32)), .val (.int i3), .val (.int (e1_r1 &&& (255 : Int32))), .val (.int (4 : Int32)), .val (.int (own_j3a_113_0 e1_r1)), .val (.int (own_j3a_130_0 e1_r1)), .val (.int (2 : Int32)), .unset] [])) _
                refine XS.aloadN X0.here hx rfl (hb hby d3_170) rfl rfl ?_
                show Steps p.tables e below (s₁.setTop (mkF m 171 #[.val (.ref r1), .val (.int (1 : Int32)), .val (.int i3), .val (.int (e1_r1 &&& (255 : Int32))), .val (.int (4 : Int32)), .val (.int (own_j3a_113_0 e1_r1)), .val (.int (own_j3a_130_0 e1_r1)), .val (.int (2 : Int32)), .unset] [(.ref r1)])) _
                refine XS.iload X0.here hx rfl (hb hby d3_171) rfl ?_
                show Steps p.tables e below (s₁.setTop (mkF m 173 #[.val (.ref r1), .val (.int (1 : Int32)), .val (.int i3), .val (.int (e1_r1 &&& (255 : Int32))), .val (.int (4 : Int32)), .val (.int (own_j3a_113_0 e1_r1)), .val (.int (own_j3a_130_0 e1_r1)), .val (.int (2 : Int32)), .unset] [(.int (2 : Int32)), (.ref r1)])) _
                refine X0.baloadBytes hx (j := (2 : Int32)) (v := (.int e2_r1)) (by rw [e0]; exact Ar24.1) (State.isArrayOf_alike hZ.alike Ar24.2.1) Ar24.2.2 hin24 hat24 (g := (mkF m 173 #[.val (.ref r1), .val (.int (1 : Int32)), .val (.int i3), .val (.int (e1_r1 &&& (255 : Int32))), .val (.int (4 : Int32)), .val (.int (own_j3a_113_0 e1_r1)), .val (.int (own_j3a_130_0 e1_r1)), .val (.int (2 : Int32)), .unset] [(.int (2 : Int32)), (.ref r1)])) rfl rfl (hb hby d3_173) _ ?_
                show Steps p.tables e below (s₁.setTop (mkF m 174 #[.val (.ref r1), .val (.int (1 : Int32)), .val (.int i3), .val (.int (e1_r1 &&& (255 : Int32))), .val (.int (4 : Int32)), .val (.int (own_j3a_113_0 e1_r1)), .val (.int (own_j3a_130_0 e1_r1)), .val (.int (2 : Int32)), .unset] [(.int e2_r1)])) _
                refine XS.sipush X0.here hx rfl (hb hby d3_174) ?_
                show Steps p.tables e below (s₁.setTop (mkF m 177 #[.val (.ref r1), .val (.int (1 : Int32)), .val (.int i3), .val (.int (e1_r1 &&& (255 : Int32))), .val (.int (4 : Int32)), .val (.int (own_j3a_113_0 e1_r1)), .val (.int (own_j3a_130_0 e1_r1)), .val (.int (2 : Int32)), .unset] [(.int (255 : Int32)), (.int e2_r1)])) _
                refine XS.iand X0.here hx rfl (hb hby d3_177) rfl ?_
                show Steps p.tables e below (s₁.setTop (mkF m 178 #[.val (.ref r1), .val (.int (1 : Int32)), .val (.int i3), .val (.int (e1_r1 &&& (255 : Int32))), .val (.int (4 : Int32)), .val (.int (own_j3a_113_0 e1_r1)), .val (.int (own_j3a_130_0 e1_r1)), .val (.int (2 : Int32)), .unset] [(.int (e2_r1 &&& (255 : Int32)))])) _
                refine XS.goto X0.here hx rfl (pc0 := 178) (pc' := 182) rfl (hb hby d3_178) (by decide) (by decide) ?_
                exact k
              exact fun t k => pre25 t (by rw [show (own_j3a_167_0 i3 e2_r1) = (e2_r1 &&& (255 : Int32)) from (if_pos hc167_23)] at k; exact k)
            · have pre26 : ∀ t, Steps p.tables e below (s₁.setTop (mkF m 182 #[.val (.ref r1), .val (.int (1 : Int32)), .val (.int i3), .val (.int (e1_r1 &&& (255 : Int32))), .val (.int (4 : Int32)), .val (.int (own_j3a_113_0 e1_r1)), .val (.int (own_j3a_130_0 e1_r1)), .val (.int (2 : Int32)), .unset] [(.int (-1 : Int32))])) t → Steps p.tables e below (s₁.setTop (entryFrame m #[(.ref r1), (.int (1 : Int32)), (.int i3)] 9)) t := by
                intro t k
                refine pre22 _ ?_
                show Steps p.tables e below (s₁.setTop (mkF m 167 #[.val (.ref r1), .val (.int (1 : Int32)), .val (.int i3), .val (.int (e1_r1 &&& (255 : Int32))), .val (.int (4 : Int32)), .val (.int (own_j3a_113_0 e1_r1)), .val (.int (own_j3a_130_0 e1_r1)), .val (.int (2 : Int32)), .unset] [(.int i3), (.int (2 : Int32))])) _
                refine XS.icmpYes X0.here hx rfl (pc0 := 167) (pc' := 181) rfl (hb hby d3_167) rfl (flt hc167_23).2.1 (by decide) (by decide) ?_
                show Steps p.tables e below (s₁.setTop (mkF m 181 #[.val (.ref r1), .val (.int (1 : Int32)), .val (.int i3), .val (.int (e1_r1 &&& (255 : Int32))), .val (.int (4 : Int32)), .val (.int (own_j3a_113_0 e1_r1)), .val (.int (own_j3a_130_0 e1_r1)), .val (.int (2 : Int32)), .unset] [])) _
                refine XS.iconst X0.here hx rfl (hb hby d3_181) ?_
                exact k
              exact fun t k => pre26 t (by rw [show (own_j3a_167_0 i3 e2_r1) = (-1 : Int32) from (if_neg hc167_23)] at k; exact k)
          have pre28 : ∀ t, Steps p.tables e below (s₁.setTop (mkF m 188 #[.val (.ref r1), .val (.int (1 : Int32)), .val (.int i3), .val (.int (e1_r1 &&& (255 : Int32))), .val (.int (4 : Int32)), .val (.int (own_j3a_113_0 e1_r1)), .val (.int (own_j3a_130_0 e1_r1)), .val (.int (2 : Int32)), .val (.int (own_j3a_167_0 i3 e2_r1))] [(.int (own_j3a_113_0 e1_r1)), (.int (own_j3a_167_0 i3 e2_r1))])) t → Steps p.tables e below (s₁.setTop (entryFrame m #[(.ref r1), (.int (1 : Int32)), (.int i3)] 9)) t := by
            intro t k
            refine pre27 _ ?_
            show Steps p.tables e below (s₁.setTop (mkF m 182 #[.val (.ref r1), .val (.int (1 : Int32)), .val (.int i3), .val (.int (e1_r1 &&& (255 : Int32))), .val (.int (4 : Int32)), .val (.int (own_j3a_113_0 e1_r1)), .val (.int (own_j3a_130_0 e1_r1)), .val (.int (2 : Int32)), .unset] [(.int (own_j3a_167_0 i3 e2_r1))])) _
            refine XS.istore X0.here hx rfl (hb hby d3_182) rfl (l' := #[.val (.ref r1), .val (.int (1 : Int32)), .val (.int i3), .val (.int (e1_r1 &&& (255 : Int32))), .val (.int (4 : Int32)), .val (.int (own_j3a_113_0 e1_r1)), .val (.int (own_j3a_130_0 e1_r1)), .val (.int (2 : Int32)), .val (.int (own_j3a_167_0 i3 e2_r1))]) rfl ?_
            show Steps p.tables e below (s₁.setTop (mkF m 184 #[.val (.ref r1), .val (.int (1 : Int32)), .val (.int i3), .val (.int (e1_r1 &&& (255 : Int32))), .val (.int (4 : Int32)), .val (.int (own_j3a_113_0 e1_r1)), .val (.int (own_j3a_130_0 e1_r1)), .val (.int (2 : Int32)), .val (.int (own_j3a_167_0 i3 e2_r1))] [])) _
            refine XS.iload X0.here hx rfl (hb hby d3_184) rfl ?_
            show Steps p.tables e below (s₁.setTop (mkF m 186 #[.val (.ref r1), .val (.int (1 : Int32)), .val (.int i3), .val (.int (e1_r1 &&& (255 : Int32))), .val (.int (4 : Int32)), .val (.int (own_j3a_113_0 e1_r1)), .val (.int (own_j3a_130_0 e1_r1)), .val (.int (2 : Int32)), .val (.int (own_j3a_167_0 i3 e2_r1))] [(.int (own_j3a_167_0 i3 e2_r1))])) _
            refine XS.iload X0.here hx rfl (hb hby d3_186) rfl ?_
            exact k
          by_cases hc188_29 : (own_j3a_167_0 i3 e2_r1) < (own_j3a_113_0 e1_r1)
          · have pre30 : ∀ t, Steps p.tables e below (s₁.setTop (mkF m 202 #[.val (.ref r1), .val (.int (1 : Int32)), .val (.int i3), .val (.int (e1_r1 &&& (255 : Int32))), .val (.int (4 : Int32)), .val (.int (own_j3a_113_0 e1_r1)), .val (.int (own_j3a_130_0 e1_r1)), .val (.int (2 : Int32)), .val (.int (own_j3a_167_0 i3 e2_r1))] [(.int (-3 : Int32))])) t → Steps p.tables e below (s₁.setTop (entryFrame m #[(.ref r1), (.int (1 : Int32)), (.int i3)] 9)) t := by
              intro t k
              refine pre28 _ ?_
              show Steps p.tables e below (s₁.setTop (mkF m 188 #[.val (.ref r1), .val (.int (1 : Int32)), .val (.int i3), .val (.int (e1_r1 &&& (255 : Int32))), .val (.int (4 : Int32)), .val (.int (own_j3a_113_0 e1_r1)), .val (.int (own_j3a_130_0 e1_r1)), .val (.int (2 : Int32)), .val (.int (own_j3a_167_0 i3 e2_r1))] [(.int (own_j3a_113_0 e1_r1)), (.int (own_j3a_167_0 i3 e2_r1))])) _
              refine XS.icmpYes X0.here hx rfl (pc0 := 188) (pc' := 198) rfl (hb hby d3_188) rfl (tlt hc188_29).1 (by decide) (by decide) ?_
              show Steps p.tables e below (s₁.setTop (mkF m 198 #[.val (.ref r1), .val (.int (1 : Int32)), .val (.int i3), .val (.int (e1_r1 &&& (255 : Int32))), .val (.int (4 : Int32)), .val (.int (own_j3a_113_0 e1_r1)), .val (.int (own_j3a_130_0 e1_r1)), .val (.int (2 : Int32)), .val (.int (own_j3a_167_0 i3 e2_r1))] [])) _
              refine XS.iload X0.here hx rfl (hb hby d3_198) rfl ?_
              show Steps p.tables e below (s₁.setTop (mkF m 200 #[.val (.ref r1), .val (.int (1 : Int32)), .val (.int i3), .val (.int (e1_r1 &&& (255 : Int32))), .val (.int (4 : Int32)), .val (.int (own_j3a_113_0 e1_r1)), .val (.int (own_j3a_130_0 e1_r1)), .val (.int (2 : Int32)), .val (.int (own_j3a_167_0 i3 e2_r1))] [(.int (2 : Int32))])) _
              refine XS.iconst X0.here hx rfl (hb hby d3_200) ?_
              show Steps p.tables e below (s₁.setTop (mkF m 201 #[.val (.ref r1), .val (.int (1 : Int32)), .val (.int i3), .val (.int (e1_r1 &&& (255 : Int32))), .val (.int (4 : Int32)), .val (.int (own_j3a_113_0 e1_r1)), .val (.int (own_j3a_130_0 e1_r1)), .val (.int (2 : Int32)), .val (.int (own_j3a_167_0 i3 e2_r1))] [(.int (-1 : Int32)), (.int (2 : Int32))])) _
              refine XS.ixor X0.here hx rfl (hb hby d3_201) rfl ?_
              exact k
            obtain ⟨fs, hr, hrun, hended, hW, hsame⟩ := X0.leave (v := some (.int (-3 : Int32))) (fun h => by rw [Bd.returns] at h; cases h)
            refine ⟨_, _, pre30 _ ?_, hrun, hended, _, _, rfl, ?_, ⟨_, rfl⟩, hW, hsame.mono (by decide) (by decide)⟩
            · show Steps p.tables e below (s₁.setTop (mkF m 202 #[.val (.ref r1), .val (.int (1 : Int32)), .val (.int i3), .val (.int (e1_r1 &&& (255 : Int32))), .val (.int (4 : Int32)), .val (.int (own_j3a_113_0 e1_r1)), .val (.int (own_j3a_130_0 e1_r1)), .val (.int (2 : Int32)), .val (.int (own_j3a_167_0 i3 e2_r1))] [(.int (-3 : Int32))])) _
              exact retI X0 hx Bd.returns (hb hby d3_202) hr
            · show Q3a Z r1 i3 e0_r1 e1_r1 e2_r1 e3_r1 e4_r1 e5_r1 k_r1 h0 n0 _ s₁.heap _
              rw [e0]
              exact ⟨congrArg (fun z => some (Value.int z)) (show (own_r3a i3 e1_r1 e2_r1 e3_r1 e4_r1) = (-3 : Int32) from ((if_neg hc22_3).trans ((if_pos hc29_6).trans ((if_pos hc49_8).trans ((if_neg hc103_10).trans (if_pos hc188_29)))))).symm, N0, rfl⟩
          · have pre31 : ∀ t, Steps p.tables e below (s₁.setTop (mkF m 195 #[.val (.ref r1), .val (.int (1 : Int32)), .val (.int i3), .val (.int (e1_r1 &&& (255 : Int32))), .val (.int (4 : Int32)), .val (.int (own_j3a_113_0 e1_r1)), .val (.int (own_j3a_130_0 e1_r1)), .val (.int (2 : Int32)), .val (.int (own_j3a_167_0 i3 e2_r1))] [(.int (own_j3a_130_0 e1_r1)), (.int (own_j3a_167_0 i3 e2_r1))])) t → Steps p.tables e below (s₁.setTop (entryFrame m #[(.ref r1), (.int (1 : Int32)), (.int i3)] 9)) t := by
              intro t k
              refine pre28 _ ?_
              show Steps p.tables e below (s₁.setTop (mkF m 188 #[.val (.ref r1), .val (.int (1 : Int32)), .val (.int i3), .val (.int (e1_r1 &&& (255 : Int32))), .val (.int (4 : Int32)), .val (.int (own_j3a_113_0 e1_r1)), .val (.int (own_j3a_130_0 e1_r1)), .val (.int (2 : Int32)), .val (.int (own_j3a_167_0 i3 e2_r1))] [(.int (own_j3a_113_0 e1_r1)), (.int (own_j3a_167_0 i3 e2_r1))])) _
              refine XS.icmpNo X0.here hx rfl (hb hby d3_188) rfl (flt hc188_29).1 ?_
              show Steps p.tables e below (s₁.setTop (mkF m 191 #[.val (.ref r1), .val (.int (1 : Int32)), .val (.int i3), .val (.int (e1_r1 &&& (255 : Int32))), .val (.int (4 : Int32)), .val (.int (own_j3a_113_0 e1_r1)), .val (.int (own_j3a_130_0 e1_r1)), .val (.int (2 : Int32)), .val (.int (own_j3a_167_0 i3 e2_r1))] [])) _
              refine XS.iload X0.here hx rfl (hb hby d3_191) rfl ?_
              show Steps p.tables e below (s₁.setTop (mkF m 193 #[.val (.ref r1), .val (.int (1 : Int32)), .val (.int i3), .val (.int (e1_r1 &&& (255 : Int32))), .val (.int (4 : Int32)), .val (.int (own_j3a_113_0 e1_r1)), .val (.int (own_j3a_130_0 e1_r1)), .val (.int (2 : Int32)), .val (.int (own_j3a_167_0 i3 e2_r1))] [(.int (own_j3a_167_0 i3 e2_r1))])) _
              refine XS.iload X0.here hx rfl (hb hby d3_193) rfl ?_
              exact k
            by_cases hc195_32 : (own_j3a_130_0 e1_r1) < (own_j3a_167_0 i3 e2_r1)
            · have pre33 : ∀ t, Steps p.tables e below (s₁.setTop (mkF m 202 #[.val (.ref r1), .val (.int (1 : Int32)), .val (.int i3), .val (.int (e1_r1 &&& (255 : Int32))), .val (.int (4 : Int32)), .val (.int (own_j3a_113_0 e1_r1)), .val (.int (own_j3a_130_0 e1_r1)), .val (.int (2 : Int32)), .val (.int (own_j3a_167_0 i3 e2_r1))] [(.int (-3 : Int32))])) t → Steps p.tables e below (s₁.setTop (entryFrame m #[(.ref r1), (.int (1 : Int32)), (.int i3)] 9)) t := by
                intro t k
                refine pre31 _ ?_
                show Steps p.tables e below (s₁.setTop (mkF m 195 #[.val (.ref r1), .val (.int (1 : Int32)), .val (.int i3), .val (.int (e1_r1 &&& (255 : Int32))), .val (.int (4 : Int32)), .val (.int (own_j3a_113_0 e1_r1)), .val (.int (own_j3a_130_0 e1_r1)), .val (.int (2 : Int32)), .val (.int (own_j3a_167_0 i3 e2_r1))] [(.int (own_j3a_130_0 e1_r1)), (.int (own_j3a_167_0 i3 e2_r1))])) _
                refine XS.icmpNo X0.here hx rfl (hb hby d3_195) rfl (tlt hc195_32).2.2.2 ?_
                show Steps p.tables e below (s₁.setTop (mkF m 198 #[.val (.ref r1), .val (.int (1 : Int32)), .val (.int i3), .val (.int (e1_r1 &&& (255 : Int32))), .val (.int (4 : Int32)), .val (.int (own_j3a_113_0 e1_r1)), .val (.int (own_j3a_130_0 e1_r1)), .val (.int (2 : Int32)), .val (.int (own_j3a_167_0 i3 e2_r1))] [])) _
                refine XS.iload X0.here hx rfl (hb hby d3_198) rfl ?_
                show Steps p.tables e below (s₁.setTop (mkF m 200 #[.val (.ref r1), .val (.int (1 : Int32)), .val (.int i3), .val (.int (e1_r1 &&& (255 : Int32))), .val (.int (4 : Int32)), .val (.int (own_j3a_113_0 e1_r1)), .val (.int (own_j3a_130_0 e1_r1)), .val (.int (2 : Int32)), .val (.int (own_j3a_167_0 i3 e2_r1))] [(.int (2 : Int32))])) _
                refine XS.iconst X0.here hx rfl (hb hby d3_200) ?_
                show Steps p.tables e below (s₁.setTop (mkF m 201 #[.val (.ref r1), .val (.int (1 : Int32)), .val (.int i3), .val (.int (e1_r1 &&& (255 : Int32))), .val (.int (4 : Int32)), .val (.int (own_j3a_113_0 e1_r1)), .val (.int (own_j3a_130_0 e1_r1)), .val (.int (2 : Int32)), .val (.int (own_j3a_167_0 i3 e2_r1))] [(.int (-1 : Int32)), (.int (2 : Int32))])) _
                refine XS.ixor X0.here hx rfl (hb hby d3_201) rfl ?_
                exact k
              obtain ⟨fs, hr, hrun, hended, hW, hsame⟩ := X0.leave (v := some (.int (-3 : Int32))) (fun h => by rw [Bd.returns] at h; cases h)
              refine ⟨_, _, pre33 _ ?_, hrun, hended, _, _, rfl, ?_, ⟨_, rfl⟩, hW, hsame.mono (by decide) (by decide)⟩
              · show Steps p.tables e below (s₁.setTop (mkF m 202 #[.val (.ref r1), .val (.int (1 : Int32)), .val (.int i3), .val (.int (e1_r1 &&& (255 : Int32))), .val (.int (4 : Int32)), .val (.int (own_j3a_113_0 e1_r1)), .val (.int (own_j3a_130_0 e1_r1)), .val (.int (2 : Int32)), .val (.int (own_j3a_167_0 i3 e2_r1))] [(.int (-3 : Int32))])) _
                exact retI X0 hx Bd.returns (hb hby d3_202) hr
              · show Q3a Z r1 i3 e0_r1 e1_r1 e2_r1 e3_r1 e4_r1 e5_r1 k_r1 h0 n0 _ s₁.heap _
                rw [e0]
                exact ⟨congrArg (fun z => some (Value.int z)) (show (own_r3a i3 e1_r1 e2_r1 e3_r1 e4_r1) = (-3 : Int32) from ((if_neg hc22_3).trans ((if_pos hc29_6).trans ((if_pos hc49_8).trans ((if_neg hc103_10).trans ((if_neg hc188_29).trans (if_pos hc195_32))))))).symm, N0, rfl⟩
            · have pre34 : ∀ t, Steps p.tables e below (s₁.setTop (mkF m 167 #[.val (.ref r1), .val (.int (1 : Int32)), .val (.int i3), .val (.int (e1_r1 &&& (255 : Int32))), .val (.int (4 : Int32)), .val (.int (128 : Int32)), .val (.int (191 : Int32)), .val (.int (3 : Int32)), .val (.int (own_j3a_167_0 i3 e2_r1))] [(.int i3), (.int (3 : Int32))])) t → Steps p.tables e below (s₁.setTop (entryFrame m #[(.ref r1), (.int (1 : Int32)), (.int i3)] 9)) t := by
                intro t k
                refine pre31 _ ?_
                show Steps p.tables e below (s₁.setTop (mkF m 195 #[.val (.ref r1), .val (.int (1 : Int32)), .val (.int i3), .val (.int (e1_r1 &&& (255 : Int32))), .val (.int (4 : Int32)), .val (.int (own_j3a_113_0 e1_r1)), .val (.int (own_j3a_130_0 e1_r1)), .val (.int (2 : Int32)), .val (.int (own_j3a_167_0 i3 e2_r1))] [(.int (own_j3a_130_0 e1_r1)), (.int (own_j3a_167_0 i3 e2_r1))])) _
                refine XS.icmpYes X0.here hx rfl (pc0 := 195) (pc' := 203) rfl (hb hby d3_195) rfl (flt hc195_32).2.2.2 (by decide) (by decide) ?_
                show Steps p.tables e below (s₁.setTop (mkF m 203 #[.val (.ref r1), .val (.int (1 : Int32)), .val (.int i3), .val (.int (e1_r1 &&& (255 : Int32))), .val (.int (4 : Int32)), .val (.int (own_j3a_113_0 e1_r1)), .val (.int (own_j3a_130_0 e1_r1)), .val (.int (2 : Int32)), .val (.int (own_j3a_167_0 i3 e2_r1))] [])) _
                refine XS.sipush X0.here hx rfl (hb hby d3_203) ?_
                show Steps p.tables e below (s₁.setTop (mkF m 206 #[.val (.ref r1), .val (.int (1 : Int32)), .val (.int i3), .val (.int (e1_r1 &&& (255 : Int32))), .val (.int (4 : Int32)), .val (.int (own_j3a_113_0 e1_r1)), .val (.int (own_j3a_130_0 e1_r1)), .val (.int (2 : Int32)), .val (.int (own_j3a_167_0 i3 e2_r1))] [(.int (128 : Int32))])) _
                refine XS.istore X0.here hx rfl (hb hby d3_206) rfl (l' := #[.val (.ref r1), .val (.int (1 : Int32)), .val (.int i3), .val (.int (e1_r1 &&& (255 : Int32))), .val (.int (4 : Int32)), .val (.int (128 : Int32)), .val (.int (own_j3a_130_0 e1_r1)), .val (.int (2 : Int32)), .val (.int (own_j3a_167_0 i3 e2_r1))]) rfl ?_
                show Steps p.tables e below (s₁.setTop (mkF m 208 #[.val (.ref r1), .val (.int (1 : Int32)), .val (.int i3), .val (.int (e1_r1 &&& (255 : Int32))), .val (.int (4 : Int32)), .val (.int (128 : Int32)), .val (.int (own_j3a_130_0 e1_r1)), .val (.int (2 : Int32)), .val (.int (own_j3a_167_0 i3 e2_r1))] [])) _
                refine XS.sipush X0.here hx rfl (hb hby d3_208) ?_
                show Steps p.tables e below (s₁.setTop (mkF m 211 #[.val (.ref r1), .val (.int (1 : Int32)), .val (.int i3), .val (.int (e1_r1 &&& (255 : Int32))), .val (.int (4 : Int32)), .val (.int (128 : Int32)), .val (.int (own_j3a_130_0 e1_r1)), .val (.int (2 : Int32)), .val (.int (own_j3a_167_0 i3 e2_r1))] [(.int (191 : Int32))])) _
                refine XS.istore X0.here hx rfl (hb hby d3_211) rfl (l' := #[.val (.ref r1), .val (.int (1 : Int32)), .val (.int i3), .val (.int (e1_r1 &&& (255 : Int32))), .val (.int (4 : Int32)), .val (.int (128 : Int32)), .val (.int (191 : Int32)), .val (.int (2 : Int32)), .val (.int (own_j3a_167_0 i3 e2_r1))]) rfl ?_
                show Steps p.tables e below (s₁.setTop (mkF m 213 #[.val (.ref r1), .val (.int (1 : Int32)), .val (.int i3), .val (.int (e1_r1 &&& (255 : Int32))), .val (.int (4 : Int32)), .val (.int (128 : Int32)), .val (.int (191 : Int32)), .val (.int (2 : Int32)), .val (.int (own_j3a_167_0 i3 e2_r1))] [])) _
                refine XS.iinc X0.here hx rfl (hb hby d3_213) rfl (l' := #[.val (.ref r1), .val (.int (1 : Int32)), .val (.int i3), .val (.int (e1_r1 &&& (255 : Int32))), .val (.int (4 : Int32)), .val (.int (128 : Int32)), .val (.int (191 : Int32)), .val (.int (3 : Int32)), .val (.int (own_j3a_167_0 i3 e2_r1))]) rfl ?_
                show Steps p.tables e below (s₁.setTop (mkF m 216 #[.val (.ref r1), .val (.int (1 : Int32)), .val (.int i3), .val (.int (e1_r1 &&& (255 : Int32))), .val (.int (4 : Int32)), .val (.int (128 : Int32)), .val (.int (191 : Int32)), .val (.int (3 : Int32)), .val (.int (own_j3a_167_0 i3 e2_r1))] [])) _
                refine XS.goto X0.here hx rfl (pc0 := 216) (pc' := 155) rfl (hb hby d3_216) (by decide) (by decide) ?_
                show Steps p.tables e below (s₁.setTop (mkF m 155 #[.val (.ref r1), .val (.int (1 : Int32)), .val (.int i3), .val (.int (e1_r1 &&& (255 : Int32))), .val (.int (4 : Int32)), .val (.int (128 : Int32)), .val (.int (191 : Int32)), .val (.int (3 : Int32)), .val (.int (own_j3a_167_0 i3 e2_r1))] [])) _
                refine XS.iload X0.here hx rfl (hb hby d3_155) rfl ?_
                show Steps p.tables e below (s₁.setTop (mkF m 157 #[.val (.ref r1), .val (.int (1 : Int32)), .val (.int i3), .val (.int (e1_r1 &&& (255 : Int32))), .val (.int (4 : Int32)), .val (.int (128 : Int32)), .val (.int (191 : Int32)), .val (.int (3 : Int32)), .val (.int (own_j3a_167_0 i3 e2_r1))] [(.int (3 : Int32))])) _
                refine XS.iloadN X0.here hx rfl (hb hby d3_157) rfl ?_
                show Steps p.tables e below (s₁.setTop (mkF m 158 #[.val (.ref r1), .val (.int (1 : Int32)), .val (.int i3), .val (.int (e1_r1 &&& (255 : Int32))), .val (.int (4 : Int32)), .val (.int (128 : Int32)), .val (.int (191 : Int32)), .val (.int (3 : Int32)), .val (.int (own_j3a_167_0 i3 e2_r1))] [(.int (1 : Int32)), (.int (3 : Int32))])) _
                refine XS.iload X0.here hx rfl (hb hby d3_158) rfl ?_
                show Steps p.tables e below (s₁.setTop (mkF m 160 #[.val (.ref r1), .val (.int (1 : Int32)), .val (.int i3), .val (.int (e1_r1 &&& (255 : Int32))), .val (.int (4 : Int32)), .val (.int (128 : Int32)), .val (.int (191 : Int32)), .val (.int (3 : Int32)), .val (.int (own_j3a_167_0 i3 e2_r1))] [(.int (4 : Int32)), (.int (1 : Int32)), (.int (3 : Int32))])) _
                refine XS.iadd X0.here hx rfl (hb hby d3_160) rfl ?_
                show Steps p.tables e below (s₁.setTop (mkF m 161 #[.val (.ref r1), .val (.int (1 : Int32)), .val (.int i3), .val (.int (e1_r1 &&& (255 : Int32))), .val (.int (4 : Int32)), .val (.int (128 : Int32)), .val (.int (191 : Int32)), .val (.int (3 : Int32)), .val (.int (own_j3a_167_0 i3 e2_r1))] [(.int (5 : Int32)), (.int (3 : Int32))])) _
                refine XS.icmpNo X0.here hx rfl (hb hby d3_161) rfl (tlt (by decide : (3 : Int32) < (5 : Int32))).2.1 ?_
                show Steps p.tables e below (s₁.setTop (mkF m 164 #[.val (.ref r1), .val (.int (1 : Int32)), .val (.int i3), .val (.int (e1_r1 &&& (255 : Int32))), .val (.int (4 : Int32)), .val (.int (128 : Int32)), .val (.int (191 : Int32)), .val (.int (3 : Int32)), .val (.int (own_j3a_167_0 i3 e2_r1))] [])) _
                refine XS.iload X0.here hx rfl (hb hby d3_164) rfl ?_
                show Steps p.tables e below (s₁.setTop (mkF m 166 #[.val (.ref r1), .val (.int (1 : Int32)), .val (.int i3), .val (.int (e1_r1 &&& (255 : Int32))), .val (.int (4 : Int32)), .val (.int (128 : Int32)), .val (.int (191 : Int32)), .val (.int (3 : Int32)), .val (.int (own_j3a_167_0 i3 e2_r1))] [(.int (3 : Int32))])) _
                refine XS.iloadN X0.here hx rfl (hb hby d3_166) rfl ?_
                exact k
              have pre39 : ∀ t, Steps p.tables e below (s₁.setTop (mkF m 182 #[.val (.ref r1), .val (.int (1 : Int32)), .val (.int i3), .val (.int (e1_r1 &&& (255 : Int32))), .val (.int (4 : Int32)), .val (.int (128 : Int32)), .val (.int (191 : Int32)), .val (.int (3 : Int32)), .val (.int (own_j3a_167_0 i3 e2_r1))] [(.int (own_j3a_167_0_v1 i3 e3_r1))])) t → Steps p.tables e below (s₁.setTop (entryFrame m #[(.ref r1), (.int (1 : Int32)), (.int i3)] 9)) t := by
                by_cases hc167_35 : (3 : Int32) < i3
                · obtain ⟨cl36, Ar36, Cq36, Sz36, Nn36, Hh36, Gg36⟩ := id V_r1
                  have hin36 : ¬ ((3 : Int32) < 0 ∨ cl36.slots.size ≤ ((3 : Int32)).toNatClampNeg) := inb_of Sz36 ⟨by decide, by decide⟩
                  have hat36 : cl36.slots[((3 : Int32)).toNatClampNeg]? = some (.int e3_r1) := Hh36.at hin36 rfl
                  have pre37 : ∀ t, Steps p.tables e below (s₁.setTop (mkF m 182 #[.val (.ref r1), .val (.int (1 : Int32)), .val (.int i3), .val (.int (e1_r1 &&& (255 : Int32))), .val (.int (4 : Int32)), .val (.int (128 : Int32)), .val (.int (191 : Int32)), .val (.int (3 : Int32)), .val (.int (own_j3a_167_0 i3 e2_r1))] [(.int (e3_r1 &&& (255 : Int32)))])) t → Steps p.tables e below (s₁.setTop (entryFrame m #[(.ref r1), (.int (1 : Int32)), (.int i3)] 9)) t := by
                    intro t k
                    refine pre34 _ ?_
                    show Steps p.tables e below (s₁.setTop (mkF m 167 #[.val (.ref r1), .val (.int (1 : Int32)), .val (.int i3), .val (.int (e1_r1 &&& (255 : Int32))), .val (.int (4 : Int32)), .val (.int (128 : Int32)), .val (.int (191 : Int32)), .val (.int (3 : Int32)), .val (.int (own_j3a_167_0 i3 e2_r1))] [(.int i3), (.int (3 : Int32))])) _
                    refine XS.icmpNo X0.here hx rfl (hb hby d3_167) rfl (tlt hc167_35).2.1 ?_
                    show Steps p.tables e below (s₁.setTop (mkF m 170 #[.val (.ref r1), .val (.int (1 : Int32)), .val (.int i3), .val (.int (e1_r1 &&& (255 : Int32))), .val (.int (4 : Int32)), .val (.int (128 : Int32)), .val (.int (191 : Int32)), .val (.int (3 : Int32)), .val (.int (own_j3a_167_0 i3 e2_r1))] [])) _
                    refine XS.aloadN X0.here hx rfl (hb hby d3_170) rfl rfl ?_
                    show Steps p.tables e below (s₁.setTop (mkF m 171 #[.val (.ref r1), .val (.int (1 : Int32)), .val (.int i3), .val (.int (e1_r1 &&& (255 : Int32))), .val (.int (4 : Int32)), .val (.int (128 : Int32)), .val (.int (191 : Int32)), .val (.int (3 : Int32)), .val (.int (own_j3a_167_0 i3 e2_r1))] [(.ref r1)])) _
                    refine XS.iload X0.here hx rfl (hb hby d3_171) rfl ?_
                    show Steps p.tables e below (s₁.setTop (mkF m 173 #[.val (.ref r1), .val (.int (1 : Int32)), .val (.int i3), .val (.int (e1_r1 &&& (255 : Int32))), .val (.int (4 : Int32)), .val (.int (128 : Int32)), .val (.int (191 : Int32)), .val (.int (3 : Int32)), .val (.int (own_j3a_167_0 i3 e2_r1))] [(.int (3 : Int32)), (.ref r1)])) _
                    refine X0.baloadBytes hx (j := (3 : Int32)) (v := (.int e3_r1)) (by rw [e0]; exact Ar36.1) (State.isArrayOf_alike hZ.alike Ar36.2.1) Ar36.2.2 hin36 hat36 (g := (mkF m 173 #[.val (.ref r1), .val (.int (1 : Int32)), .val (.int i3), .val (.int (e1_r1 &&& (255 : Int32))), .val (.int (4 : Int32)), .val (.int (128 : Int32)), .val (.int (191 : Int32)), .val (.int (3 : Int32)), .val (.int (own_j3a_167_0 i3 e2_r1))] [(.int (3 : Int32)), (.ref r1)])) rfl rfl (hb hby d3_173) _ ?_
                    show Steps p.tables e below (s₁.setTop (mkF m 174 #[.val (.ref r1), .val (.int (1 : Int32)), .val (.int i3), .val (.int (e1_r1 &&& (255 : Int32))), .val (.int (4 : Int32)), .val (.int (128 : Int32)), .val (.int (191 : Int32)), .val (.int (3 : Int32)), .val (.int (own_j3a_167_0 i3 e2_r1))] [(.int e3_r1)])) _
                    refine XS.sipush X0.here hx rfl (hb hby d3_174) ?_
                    show Steps p.tables e below (s₁.setTop (mkF m 177 #[.val (.ref r1), .val (.int (1 : Int32)), .val (.int i3), .val (.int (e1_r1 &&& (255 : Int32))), .val (.int (4 : Int32)), .val (.int (128 : Int32)), .val (.int (191 : Int32)), .val (.int (3 : Int32)), .val (.int (own_j3a_167_0 i3 e2_r1))] [(.int (255 : Int32)), (.int e3_r1)])) _
                    refine XS.iand X0.here hx rfl (hb hby d3_177) rfl ?_
                    show Steps p.tables e below (s₁.setTop (mkF m 178 #[.val (.ref r1), .val (.int (1 : Int32)), .val (.int i3), .val (.int (e1_r1 &&& (255 : Int32))), .val (.int (4 : Int32)), .val (.int (128 : Int32)), .val (.int (191 : Int32)), .val (.int (3 : Int32)), .val (.int (own_j3a_167_0 i3 e2_r1))] [(.int (e3_r1 &&& (255 : Int32)))])) _
                    refine XS.goto X0.here hx rfl (pc0 := 178) (pc' := 182) rfl (hb hby d3_178) (by decide) (by decide) ?_
                    exact k
                  exact fun t k => pre37 t (by rw [show (own_j3a_167_0_v1 i3 e3_r1) = (e3_r1 &&& (255 : Int32)) from (if_pos hc167_35)] at k; exact k)
                · have pre38 : ∀ t, Steps p.tables e below (s₁.setTop (mkF m 182 #[.val (.ref r1), .val (.int (1 : Int32)), .val (.int i3), .val (.int (e1_r1 &&& (255 : Int32))), .val (.int (4 : Int32)), .val (.int (128 : Int32)), .val (.int (191 : Int32)), .val (.int (3 : Int32)), .val (.int (own_j3a_167_0 i3 e2_r1))] [(.int (-1 : Int32))])) t → Steps p.tables e below (s₁.setTop (entryFrame m #[(.ref r1), (.int (1 : Int32)), (.int i3)] 9)) t := by
                    intro t k
                    refine pre34 _ ?_
                    show Steps p.tables e below (s₁.setTop (mkF m 167 #[.val (.ref r1), .val (.int (1 : Int32)), .val (.int i3), .val (.int (e1_r1 &&& (255 : Int32))), .val (.int (4 : Int32)), .val (.int (128 : Int32)), .val (.int (191 : Int32)), .val (.int (3 : Int32)), .val (.int (own_j3a_167_0 i3 e2_r1))] [(.int i3), (.int (3 : Int32))])) _
                    refine XS.icmpYes X0.here hx rfl (pc0 := 167) (pc' := 181) rfl (hb hby d3_167) rfl (flt hc167_35).2.1 (by decide) (by decide) ?_
                    show Steps p.tables e below (s₁.setTop (mkF m 181 #[.val (.ref r1), .val (.int (1 : Int32)), .val (.int i3), .val (.int (e1_r1 &&& (255 : Int32))), .val (.int (4 : Int32)), .val (.int (128 : Int32)), .val (.int (191 : Int32)), .val (.int (3 : Int32)), .val (.int (own_j3a_167_0 i3 e2_r1))] [])) _
                    refine XS.iconst X0.here hx rfl (hb hby d3_181) ?_
                    exact k
                  exact fun t k => pre38 t (by rw [show (own_j3a_167_0_v1 i3 e3_r1) = (-1 : Int32) from (if_neg hc167_35)] at k; exact k)
              have pre40 : ∀ t, Steps p.tables e below (s₁.setTop (mkF m 188 #[.val (.ref r1), .val (.int (1 : Int32)), .val (.int i3), .val (.int (e1_r1 &&& (255 : Int32))), .val (.int (4 : Int32)), .val (.int (128 : Int32)), .val (.int (191 : Int32)), .val (.int (3 : Int32)), .val (.int (own_j3a_167_0_v1 i3 e3_r1))] [(.int (128 : Int32)), (.int (own_j3a_167_0_v1 i3 e3_r1))])) t → Steps p.tables e below (s₁.setTop (entryFrame m #[(.ref r1), (.int (1 : Int32)), (.int i3)] 9)) t := by
                intro t k
                refine pre39 _ ?_
                show Steps p.tables e below (s₁.setTop (mkF m 182 #[.val (.ref r1), .val (.int (1 : Int32)), .val (.int i3), .val (.int (e1_r1 &&& (255 : Int32))), .val (.int (4 : Int32)), .val (.int (128 : Int32)), .val (.int (191 : Int32)), .val (.int (3 : Int32)), .val (.int (own_j3a_167_0 i3 e2_r1))] [(.int (own_j3a_167_0_v1 i3 e3_r1))])) _
                refine XS.istore X0.here hx rfl (hb hby d3_182) rfl (l' := #[.val (.ref r1), .val (.int (1 : Int32)), .val (.int i3), .val (.int (e1_r1 &&& (255 : Int32))), .val (.int (4 : Int32)), .val (.int (128 : Int32)), .val (.int (191 : Int32)), .val (.int (3 : Int32)), .val (.int (own_j3a_167_0_v1 i3 e3_r1))]) rfl ?_
                show Steps p.tables e below (s₁.setTop (mkF m 184 #[.val (.ref r1), .val (.int (1 : Int32)), .val (.int i3), .val (.int (e1_r1 &&& (255 : Int32))), .val (.int (4 : Int32)), .val (.int (128 : Int32)), .val (.int (191 : Int32)), .val (.int (3 : Int32)), .val (.int (own_j3a_167_0_v1 i3 e3_r1))] [])) _
                refine XS.iload X0.here hx rfl (hb hby d3_184) rfl ?_
                show Steps p.tables e below (s₁.setTop (mkF m 186 #[.val (.ref r1), .val (.int (1 : Int32)), .val (.int i3), .val (.int (e1_r1 &&& (255 : Int32))), .val (.int (4 : Int32)), .val (.int (128 : Int32)), .val (.int (191 : Int32)), .val (.int (3 : Int32)), .val (.int (own_j3a_167_0_v1 i3 e3_r1))] [(.int (own_j3a_167_0_v1 i3 e3_r1))])) _
                refine XS.iload X0.here hx rfl (hb hby d3_186) rfl ?_
                exact k
              by_cases hc188_41 : (own_j3a_167_0_v1 i3 e3_r1) < (128 : Int32)
              · have pre42 : ∀ t, Steps p.tables e below (s₁.setTop (mkF m 202 #[.val (.ref r1), .val (.int (1 : Int32)), .val (.int i3), .val (.int (e1_r1 &&& (255 : Int32))), .val (.int (4 : Int32)), .val (.int (128 : Int32)), .val (.int (191 : Int32)), .val (.int (3 : Int32)), .val (.int (own_j3a_167_0_v1 i3 e3_r1))] [(.int (-4 : Int32))])) t → Steps p.tables e below (s₁.setTop (entryFrame m #[(.ref r1), (.int (1 : Int32)), (.int i3)] 9)) t := by
                  intro t k
                  refine pre40 _ ?_
                  show Steps p.tables e below (s₁.setTop (mkF m 188 #[.val (.ref r1), .val (.int (1 : Int32)), .val (.int i3), .val (.int (e1_r1 &&& (255 : Int32))), .val (.int (4 : Int32)), .val (.int (128 : Int32)), .val (.int (191 : Int32)), .val (.int (3 : Int32)), .val (.int (own_j3a_167_0_v1 i3 e3_r1))] [(.int (128 : Int32)), (.int (own_j3a_167_0_v1 i3 e3_r1))])) _
                  refine XS.icmpYes X0.here hx rfl (pc0 := 188) (pc' := 198) rfl (hb hby d3_188) rfl (tlt hc188_41).1 (by decide) (by decide) ?_
                  show Steps p.tables e below (s₁.setTop (mkF m 198 #[.val (.ref r1), .val (.int (1 : Int32)), .val (.int i3), .val (.int (e1_r1 &&& (255 : Int32))), .val (.int (4 : Int32)), .val (.int (128 : Int32)), .val (.int (191 : Int32)), .val (.int (3 : Int32)), .val (.int (own_j3a_167_0_v1 i3 e3_r1))] [])) _
                  refine XS.iload X0.here hx rfl (hb hby d3_198) rfl ?_
                  show Steps p.tables e below (s₁.setTop (mkF m 200 #[.val (.ref r1), .val (.int (1 : Int32)), .val (.int i3), .val (.int (e1_r1 &&& (255 : Int32))), .val (.int (4 : Int32)), .val (.int (128 : Int32)), .val (.int (191 : Int32)), .val (.int (3 : Int32)), .val (.int (own_j3a_167_0_v1 i3 e3_r1))] [(.int (3 : Int32))])) _
                  refine XS.iconst X0.here hx rfl (hb hby d3_200) ?_
                  show Steps p.tables e below (s₁.setTop (mkF m 201 #[.val (.ref r1), .val (.int (1 : Int32)), .val (.int i3), .val (.int (e1_r1 &&& (255 : Int32))), .val (.int (4 : Int32)), .val (.int (128 : Int32)), .val (.int (191 : Int32)), .val (.int (3 : Int32)), .val (.int (own_j3a_167_0_v1 i3 e3_r1))] [(.int (-1 : Int32)), (.int (3 : Int32))])) _
                  refine XS.ixor X0.here hx rfl (hb hby d3_201) rfl ?_
                  exact k
                obtain ⟨fs, hr, hrun, hended, hW, hsame⟩ := X0.leave (v := some (.int (-4 : Int32))) (fun h => by rw [Bd.returns] at h; cases h)
                refine ⟨_, _, pre42 _ ?_, hrun, hended, _, _, rfl, ?_, ⟨_, rfl⟩, hW, hsame.mono (by decide) (by decide)⟩
                · show Steps p.tables e below (s₁.setTop (mkF m 202 #[.val (.ref r1), .val (.int (1 : Int32)), .val (.int i3), .val (.int (e1_r1 &&& (255 : Int32))), .val (.int (4 : Int32)), .val (.int (128 : Int32)), .val (.int (191 : Int32)), .val (.int (3 : Int32)), .val (.int (own_j3a_167_0_v1 i3 e3_r1))] [(.int (-4 : Int32))])) _
                  exact retI X0 hx Bd.returns (hb hby d3_202) hr
                · show Q3a Z r1 i3 e0_r1 e1_r1 e2_r1 e3_r1 e4_r1 e5_r1 k_r1 h0 n0 _ s₁.heap _
                  rw [e0]
                  exact ⟨congrArg (fun z => some (Value.int z)) (show (own_r3a i3 e1_r1 e2_r1 e3_r1 e4_r1) = (-4 : Int32) from ((if_neg hc22_3).trans ((if_pos hc29_6).trans ((if_pos hc49_8).trans ((if_neg hc103_10).trans ((if_neg hc188_29).trans ((if_neg hc195_32).trans (if_pos hc188_41)))))))).symm, N0, rfl⟩
              · have pre43 : ∀ t, Steps p.tables e below (s₁.setTop (mkF m 195 #[.val (.ref r1), .val (.int (1 : Int32)), .val (.int i3), .val (.int (e1_r1 &&& (255 : Int32))), .val (.int (4 : Int32)), .val (.int (128 : Int32)), .val (.int (191 : Int32)), .val (.int (3 : Int32)), .val (.int (own_j3a_167_0_v1 i3 e3_r1))] [(.int (191 : Int32)), (.int (own_j3a_167_0_v1 i3 e3_r1))])) t → Steps p.tables e below (s₁.setTop (entryFrame m #[(.ref r1), (.int (1 : Int32)), (.int i3)] 9)) t := by
                  intro t k
                  refine pre40 _ ?_
                  show Steps p.tables e below (s₁.setTop (mkF m 188 #[.val (.ref r1), .val (.int (1 : Int32)), .val (.int i3), .val (.int (e1_r1 &&& (255 : Int32))), .val (.int (4 : Int32)), .val (.int (128 : Int32)), .val (.int (191 : Int32)), .val (.int (3 : Int32)), .val (.int (own_j3a_167_0_v1 i3 e3_r1))] [(.int (128 : Int32)), (.int (own_j3a_167_0_v1 i3 e3_r1))])) _
                  refine XS.icmpNo X0.here hx rfl (hb hby d3_188) rfl (flt hc188_41).1 ?_
                  show Steps p.tables e below (s₁.setTop (mkF m 191 #[.val (.ref r1), .val (.int (1 : Int32)), .val (.int i3), .val (.int (e1_r1 &&& (255 : Int32))), .val (.int (4 : Int32)), .val (.int (128 : Int32)), .val (.int (191 : Int32)), .val (.int (3 : Int32)), .val (.int (own_j3a_167_0_v1 i3 e3_r1))] [])) _
                  refine XS.iload X0.here hx rfl (hb hby d3_191) rfl ?_
                  show Steps p.tables e below (s₁.setTop (mkF m 193 #[.val (.ref r1), .val (.int (1 : Int32)), .val (.int i3), .val (.int (e1_r1 &&& (255 : Int32))), .val (.int (4 : Int32)), .val (.int (128 : Int32)), .val (.int (191 : Int32)), .val (.int (3 : Int32)), .val (.int (own_j3a_167_0_v1 i3 e3_r1))] [(.int (own_j3a_167_0_v1 i3 e3_r1))])) _
                  refine XS.iload X0.here hx rfl (hb hby d3_193) rfl ?_
                  exact k
                by_cases hc195_44 : (191 : Int32) < (own_j3a_167_0_v1 i3 e3_r1)
                · have pre45 : ∀ t, Steps p.tables e below (s₁.setTop (mkF m 202 #[.val (.ref r1), .val (.int (1 : Int32)), .val (.int i3), .val (.int (e1_r1 &&& (255 : Int32))), .val (.int (4 : Int32)), .val (.int (128 : Int32)), .val (.int (191 : Int32)), .val (.int (3 : Int32)), .val (.int (own_j3a_167_0_v1 i3 e3_r1))] [(.int (-4 : Int32))])) t → Steps p.tables e below (s₁.setTop (entryFrame m #[(.ref r1), (.int (1 : Int32)), (.int i3)] 9)) t := by
                    intro t k
                    refine pre43 _ ?_
                    show Steps p.tables e below (s₁.setTop (mkF m 195 #[.val (.ref r1), .val (.int (1 : Int32)), .val (.int i3), .val (.int (e1_r1 &&& (255 : Int32))), .val (.int (4 : Int32)), .val (.int (128 : Int32)), .val (.int (191 : Int32)), .val (.int (3 : Int32)), .val (.int (own_j3a_167_0_v1 i3 e3_r1))] [(.int (191 : Int32)), (.int (own_j3a_167_0_v1 i3 e3_r1))])) _
                    refine XS.icmpNo X0.here hx rfl (hb hby d3_195) rfl (tlt hc195_44).2.2.2 ?_
                    show Steps p.tables e below (s₁.setTop (mkF m 198 #[.val (.ref r1), .val (.int (1 : Int32)), .val (.int i3), .val (.int (e1_r1 &&& (255 : Int32))), .val (.int (4 : Int32)), .val (.int (128 : Int32)), .val (.int (191 : Int32)), .val (.int (3 : Int32)), .val (.int (own_j3a_167_0_v1 i3 e3_r1))] [])) _
                    refine XS.iload X0.here hx rfl (hb hby d3_198) rfl ?_
                    show Steps p.tables e below (s₁.setTop (mkF m 200 #[.val (.ref r1), .val (.int (1 : Int32)), .val (.int i3), .val (.int (e1_r1 &&& (255 : Int32))), .val (.int (4 : Int32)), .val (.int (128 : Int32)), .val (.int (191 : Int32)), .val (.int (3 : Int32)), .val (.int (own_j3a_167_0_v1 i3 e3_r1))] [(.int (3 : Int32))])) _
                    refine XS.iconst X0.here hx rfl (hb hby d3_200) ?_
                    show Steps p.tables e below (s₁.setTop (mkF m 201 #[.val (.ref r1), .val (.int (1 : Int32)), .val (.int i3), .val (.int (e1_r1 &&& (255 : Int32))), .val (.int (4 : Int32)), .val (.int (128 : Int32)), .val (.int (191 : Int32)), .val (.int (3 : Int32)), .val (.int (own_j3a_167_0_v1 i3 e3_r1))] [(.int (-1 : Int32)), (.int (3 : Int32))])) _
                    refine XS.ixor X0.here hx rfl (hb hby d3_201) rfl ?_
                    exact k
                  obtain ⟨fs, hr, hrun, hended, hW, hsame⟩ := X0.leave (v := some (.int (-4 : Int32))) (fun h => by rw [Bd.returns] at h; cases h)
                  refine ⟨_, _, pre45 _ ?_, hrun, hended, _, _, rfl, ?_, ⟨_, rfl⟩, hW, hsame.mono (by decide) (by decide)⟩
                  · show Steps p.tables e below (s₁.setTop (mkF m 202 #[.val (.ref r1), .val (.int (1 : Int32)), .val (.int i3), .val (.int (e1_r1 &&& (255 : Int32))), .val (.int (4 : Int32)), .val (.int (128 : Int32)), .val (.int (191 : Int32)), .val (.int (3 : Int32)), .val (.int (own_j3a_167_0_v1 i3 e3_r1))] [(.int (-4 : Int32))])) _
                    exact retI X0 hx Bd.returns (hb hby d3_202) hr
                  · show Q3a Z r1 i3 e0_r1 e1_r1 e2_r1 e3_r1 e4_r1 e5_r1 k_r1 h0 n0 _ s₁.heap _
                    rw [e0]
                    exact ⟨congrArg (fun z => some (Value.int z)) (show (own_r3a i3 e1_r1 e2_r1 e3_r1 e4_r1) = (-4 : Int32) from ((if_neg hc22_3).trans ((if_pos hc29_6).trans ((if_pos hc49_8).trans ((if_neg hc103_10).trans ((if_neg hc188_29).trans ((if_neg hc195_32).trans ((if_neg hc188_41).trans (if_pos hc195_44))))))))).symm, N0, rfl⟩
                · have pre46 : ∀ t, Steps p.tables e below (s₁.setTop (mkF m 167 #[.val (.ref r1), .val (.int (1 : Int32)), .val (.int i3), .val (.int (e1_r1 &&& (255 : Int32))), .val (.int (4 : Int32)), .val (.int (128 : Int32)), .val (.int (191 : Int32)), .val (.int (4 : Int32)), .val (.int (own_j3a_167_0_v1 i3 e3_r1))] [(.int i3), (.int (4 : Int32))])) t → Steps p.tables e below (s₁.setTop (entryFrame m #[(.ref r1), (.int (1 : Int32)), (.int i3)] 9)) t := by
                    intro t k
                    refine pre43 _ ?_
                    show Steps p.tables e below (s₁.setTop (mkF m 195 #[.val (.ref r1), .val (.int (1 : Int32)), .val (.int i3), .val (.int (e1_r1 &&& (255 : Int32))), .val (.int (4 : Int32)), .val (.int (128 : Int32)), .val (.int (191 : Int32)), .val (.int (3 : Int32)), .val (.int (own_j3a_167_0_v1 i3 e3_r1))] [(.int (191 : Int32)), (.int (own_j3a_167_0_v1 i3 e3_r1))])) _
                    refine XS.icmpYes X0.here hx rfl (pc0 := 195) (pc' := 203) rfl (hb hby d3_195) rfl (flt hc195_44).2.2.2 (by decide) (by decide) ?_
                    show Steps p.tables e below (s₁.setTop (mkF m 203 #[.val (.ref r1), .val (.int (1 : Int32)), .val (.int i3), .val (.int (e1_r1 &&& (255 : Int32))), .val (.int (4 : Int32)), .val (.int (128 : Int32)), .val (.int (191 : Int32)), .val (.int (3 : Int32)), .val (.int (own_j3a_167_0_v1 i3 e3_r1))] [])) _
                    refine XS.sipush X0.here hx rfl (hb hby d3_203) ?_
                    show Steps p.tables e below (s₁.setTop (mkF m 206 #[.val (.ref r1), .val (.int (1 : Int32)), .val (.int i3), .val (.int (e1_r1 &&& (255 : Int32))), .val (.int (4 : Int32)), .val (.int (128 : Int32)), .val (.int (191 : Int32)), .val (.int (3 : Int32)), .val (.int (own_j3a_167_0_v1 i3 e3_r1))] [(.int (128 : Int32))])) _
                    refine XS.istore X0.here hx rfl (hb hby d3_206) rfl (l' := #[.val (.ref r1), .val (.int (1 : Int32)), .val (.int i3), .val (.int (e1_r1 &&& (255 : Int32))), .val (.int (4 : Int32)), .val (.int (128 : Int32)), .val (.int (191 : Int32)), .val (.int (3 : Int32)), .val (.int (own_j3a_167_0_v1 i3 e3_r1))]) rfl ?_
                    show Steps p.tables e below (s₁.setTop (mkF m 208 #[.val (.ref r1), .val (.int (1 : Int32)), .val (.int i3), .val (.int (e1_r1 &&& (255 : Int32))), .val (.int (4 : Int32)), .val (.int (128 : Int32)), .val (.int (191 : Int32)), .val (.int (3 : Int32)), .val (.int (own_j3a_167_0_v1 i3 e3_r1))] [])) _
                    refine XS.sipush X0.here hx rfl (hb hby d3_208) ?_
                    show Steps p.tables e below (s₁.setTop (mkF m 211 #[.val (.ref r1), .val (.int (1 : Int32)), .val (.int i3), .val (.int (e1_r1 &&& (255 : Int32))), .val (.int (4 : Int32)), .val (.int (128 : Int32)), .val (.int (191 : Int32)), .val (.int (3 : Int32)), .val (.int (own_j3a_167_0_v1 i3 e3_r1))] [(.int (191 : Int32))])) _
                    refine XS.istore X0.here hx rfl (hb hby d3_211) rfl (l' := #[.val (.ref r1), .val (.int (1 : Int32)), .val (.int i3), .val (.int (e1_r1 &&& (255 : Int32))), .val (.int (4 : Int32)), .val (.int (128 : Int32)), .val (.int (191 : Int32)), .val (.int (3 : Int32)), .val (.int (own_j3a_167_0_v1 i3 e3_r1))]) rfl ?_
                    show Steps p.tables e below (s₁.setTop (mkF m 213 #[.val (.ref r1), .val (.int (1 : Int32)), .val (.int i3), .val (.int (e1_r1 &&& (255 : Int32))), .val (.int (4 : Int32)), .val (.int (128 : Int32)), .val (.int (191 : Int32)), .val (.int (3 : Int32)), .val (.int (own_j3a_167_0_v1 i3 e3_r1))] [])) _
                    refine XS.iinc X0.here hx rfl (hb hby d3_213) rfl (l' := #[.val (.ref r1), .val (.int (1 : Int32)), .val (.int i3), .val (.int (e1_r1 &&& (255 : Int32))), .val (.int (4 : Int32)), .val (.int (128 : Int32)), .val (.int (191 : Int32)), .val (.int (4 : Int32)), .val (.int (own_j3a_167_0_v1 i3 e3_r1))]) rfl ?_
                    show Steps p.tables e below (s₁.setTop (mkF m 216 #[.val (.ref r1), .val (.int (1 : Int32)), .val (.int i3), .val (.int (e1_r1 &&& (255 : Int32))), .val (.int (4 : Int32)), .val (.int (128 : Int32)), .val (.int (191 : Int32)), .val (.int (4 : Int32)), .val (.int (own_j3a_167_0_v1 i3 e3_r1))] [])) _
                    refine XS.goto X0.here hx rfl (pc0 := 216) (pc' := 155) rfl (hb hby d3_216) (by decide) (by decide) ?_
                    show Steps p.tables e below (s₁.setTop (mkF m 155 #[.val (.ref r1), .val (.int (1 : Int32)), .val (.int i3), .val (.int (e1_r1 &&& (255 : Int32))), .val (.int (4 : Int32)), .val (.int (128 : Int32)), .val (.int (191 : Int32)), .val (.int (4 : Int32)), .val (.int (own_j3a_167_0_v1 i3 e3_r1))] [])) _
                    refine XS.iload X0.here hx rfl (hb hby d3_155) rfl ?_
                    show Steps p.tables e below (s₁.setTop (mkF m 157 #[.val (.ref r1), .val (.int (1 : Int32)), .val (.int i3), .val (.int (e1_r1 &&& (255 : Int32))), .val (.int (4 : Int32)), .val (.int (128 : Int32)), .val (.int (191 : Int32)), .val (.int (4 : Int32)), .val (.int (own_j3a_167_0_v1 i3 e3_r1))] [(.int (4 : Int32))])) _
                    refine XS.iloadN X0.here hx rfl (hb hby d3_157) rfl ?_
                    show Steps p.tables e below (s₁.setTop (mkF m 158 #[.val (.ref r1), .val (.int (1 : Int32)), .val (.int i3), .val (.int (e1_r1 &&& (255 : Int32))), .val (.int (4 : Int32)), .val (.int (128 : Int32)), .val (.int (191 : Int32)), .val (.int (4 : Int32)), .val (.int (own_j3a_167_0_v1 i3 e3_r1))] [(.int (1 : Int32)), (.int (4 : Int32))])) _
                    refine XS.iload X0.here hx rfl (hb hby d3_158) rfl ?_
                    show Steps p.tables e below (s₁.setTop (mkF m 160 #[.val (.ref r1), .val (.int (1 : Int32)), .val (.int i3), .val (.int (e1_r1 &&& (255 : Int32))), .val (.int (4 : Int32)), .val (.int (128 : Int32)), .val (.int (191 : Int32)), .val (.int (4 : Int32)), .val (.int (own_j3a_167_0_v1 i3 e3_r1))] [(.int (4 : Int32)), (.int (1 : Int32)), (.int (4 : Int32))])) _
                    refine XS.iadd X0.here hx rfl (hb hby d3_160) rfl ?_
                    show Steps p.tables e below (s₁.setTop (mkF m 161 #[.val (.ref r1), .val (.int (1 : Int32)), .val (.int i3), .val (.int (e1_r1 &&& (255 : Int32))), .val (.int (4 : Int32)), .val (.int (128 : Int32)), .val (.int (191 : Int32)), .val (.int (4 : Int32)), .val (.int (own_j3a_167_0_v1 i3 e3_r1))] [(.int (5 : Int32)), (.int (4 : Int32))])) _
                    refine XS.icmpNo X0.here hx rfl (hb hby d3_161) rfl (tlt (by decide : (4 : Int32) < (5 : Int32))).2.1 ?_
                    show Steps p.tables e below (s₁.setTop (mkF m 164 #[.val (.ref r1), .val (.int (1 : Int32)), .val (.int i3), .val (.int (e1_r1 &&& (255 : Int32))), .val (.int (4 : Int32)), .val (.int (128 : Int32)), .val (.int (191 : Int32)), .val (.int (4 : Int32)), .val (.int (own_j3a_167_0_v1 i3 e3_r1))] [])) _
                    refine XS.iload X0.here hx rfl (hb hby d3_164) rfl ?_
                    show Steps p.tables e below (s₁.setTop (mkF m 166 #[.val (.ref r1), .val (.int (1 : Int32)), .val (.int i3), .val (.int (e1_r1 &&& (255 : Int32))), .val (.int (4 : Int32)), .val (.int (128 : Int32)), .val (.int (191 : Int32)), .val (.int (4 : Int32)), .val (.int (own_j3a_167_0_v1 i3 e3_r1))] [(.int (4 : Int32))])) _
                    refine XS.iloadN X0.here hx rfl (hb hby d3_166) rfl ?_
                    exact k
                  have pre51 : ∀ t, Steps p.tables e below (s₁.setTop (mkF m 182 #[.val (.ref r1), .val (.int (1 : Int32)), .val (.int i3), .val (.int (e1_r1 &&& (255 : Int32))), .val (.int (4 : Int32)), .val (.int (128 : Int32)), .val (.int (191 : Int32)), .val (.int (4 : Int32)), .val (.int (own_j3a_167_0_v1 i3 e3_r1))] [(.int (own_j3a_167_0_v2 i3 e4_r1))])) t → Steps p.tables e below (s₁.setTop (entryFrame m #[(.ref r1), (.int (1 : Int32)), (.int i3)] 9)) t := by
                    by_cases hc167_47 : (4 : Int32) < i3
                    · obtain ⟨cl48, Ar48, Cq48, Sz48, Nn48, Hh48, Gg48⟩ := id V_r1
                      have hin48 : ¬ ((4 : Int32) < 0 ∨ cl48.slots.size ≤ ((4 : Int32)).toNatClampNeg) := inb_of Sz48 ⟨by decide, by decide⟩
                      have hat48 : cl48.slots[((4 : Int32)).toNatClampNeg]? = some (.int e4_r1) := Hh48.at hin48 rfl
                      have pre49 : ∀ t, Steps p.tables e below (s₁.setTop (mkF m 182 #[.val (.ref r1), .val (.int (1 : Int32)), .val (.int i3), .val (.int (e1_r1 &&& (255 : Int32))), .val (.int (4 : Int32)), .val (.int (128 : Int32)), .val (.int (191 : Int32)), .val (.int (4 : Int32)), .val (.int (own_j3a_167_0_v1 i3 e3_r1))] [(.int (e4_r1 &&& (255 : Int32)))])) t → Steps p.tables e below (s₁.setTop (entryFrame m #[(.ref r1), (.int (1 : Int32)), (.int i3)] 9)) t := by
                        intro t k
                        refine pre46 _ ?_
                        show Steps p.tables e below (s₁.setTop (mkF m 167 #[.val (.ref r1), .val (.int (1 : Int32)), .val (.int i3), .val (.int (e1_r1 &&& (255 : Int32))), .val (.int (4 : Int32)), .val (.int (128 : Int32)), .val (.int (191 : Int32)), .val (.int (4 : Int32)), .val (.int (own_j3a_167_0_v1 i3 e3_r1))] [(.int i3), (.int (4 : Int32))])) _
                        refine XS.icmpNo X0.here hx rfl (hb hby d3_167) rfl (tlt hc167_47).2.1 ?_
                        show Steps p.tables e below (s₁.setTop (mkF m 170 #[.val (.ref r1), .val (.int (1 : Int32)), .val (.int i3), .val (.int (e1_r1 &&& (255 : Int32))), .val (.int (4 : Int32)), .val (.int (128 : Int32)), .val (.int (191 : Int32)), .val (.int (4 : Int32)), .val (.int (own_j3a_167_0_v1 i3 e3_r1))] [])) _
                        refine XS.aloadN X0.here hx rfl (hb hby d3_170) rfl rfl ?_
                        show Steps p.tables e below (s₁.setTop (mkF m 171 #[.val (.ref r1), .val (.int (1 : Int32)), .val (.int i3), .val (.int (e1_r1 &&& (255 : Int32))), .val (.int (4 : Int32)), .val (.int (128 : Int32)), .val (.int (191 : Int32)), .val (.int (4 : Int32)), .val (.int (own_j3a_167_0_v1 i3 e3_r1))] [(.ref r1)])) _
                        refine XS.iload X0.here hx rfl (hb hby d3_171) rfl ?_
                        show Steps p.tables e below (s₁.setTop (mkF m 173 #[.val (.ref r1), .val (.int (1 : Int32)), .val (.int i3), .val (.int (e1_r1 &&& (255 : Int32))), .val (.int (4 : Int32)), .val (.int (128 : Int32)), .val (.int (191 : Int32)), .val (.int (4 : Int32)), .val (.int (own_j3a_167_0_v1 i3 e3_r1))] [(.int (4 : Int32)), (.ref r1)])) _
                        refine X0.baloadBytes hx (j := (4 : Int32)) (v := (.int e4_r1)) (by rw [e0]; exact Ar48.1) (State.isArrayOf_alike hZ.alike Ar48.2.1) Ar48.2.2 hin48 hat48 (g := (mkF m 173 #[.val (.ref r1), .val (.int (1 : Int32)), .val (.int i3), .val (.int (e1_r1 &&& (255 : Int32))), .val (.int (4 : Int32)), .val (.int (128 : Int32)), .val (.int (191 : Int32)), .val (.int (4 : Int32)), .val (.int (own_j3a_167_0_v1 i3 e3_r1))] [(.int (4 : Int32)), (.ref r1)])) rfl rfl (hb hby d3_173) _ ?_
                        show Steps p.tables e below (s₁.setTop (mkF m 174 #[.val (.ref r1), .val (.int (1 : Int32)), .val (.int i3), .val (.int (e1_r1 &&& (255 : Int32))), .val (.int (4 : Int32)), .val (.int (128 : Int32)), .val (.int (191 : Int32)), .val (.int (4 : Int32)), .val (.int (own_j3a_167_0_v1 i3 e3_r1))] [(.int e4_r1)])) _
                        refine XS.sipush X0.here hx rfl (hb hby d3_174) ?_
                        show Steps p.tables e below (s₁.setTop (mkF m 177 #[.val (.ref r1), .val (.int (1 : Int32)), .val (.int i3), .val (.int (e1_r1 &&& (255 : Int32))), .val (.int (4 : Int32)), .val (.int (128 : Int32)), .val (.int (191 : Int32)), .val (.int (4 : Int32)), .val (.int (own_j3a_167_0_v1 i3 e3_r1))] [(.int (255 : Int32)), (.int e4_r1)])) _
                        refine XS.iand X0.here hx rfl (hb hby d3_177) rfl ?_
                        show Steps p.tables e below (s₁.setTop (mkF m 178 #[.val (.ref r1), .val (.int (1 : Int32)), .val (.int i3), .val (.int (e1_r1 &&& (255 : Int32))), .val (.int (4 : Int32)), .val (.int (128 : Int32)), .val (.int (191 : Int32)), .val (.int (4 : Int32)), .val (.int (own_j3a_167_0_v1 i3 e3_r1))] [(.int (e4_r1 &&& (255 : Int32)))])) _
                        refine XS.goto X0.here hx rfl (pc0 := 178) (pc' := 182) rfl (hb hby d3_178) (by decide) (by decide) ?_
                        exact k
                      exact fun t k => pre49 t (by rw [show (own_j3a_167_0_v2 i3 e4_r1) = (e4_r1 &&& (255 : Int32)) from (if_pos hc167_47)] at k; exact k)
                    · have pre50 : ∀ t, Steps p.tables e below (s₁.setTop (mkF m 182 #[.val (.ref r1), .val (.int (1 : Int32)), .val (.int i3), .val (.int (e1_r1 &&& (255 : Int32))), .val (.int (4 : Int32)), .val (.int (128 : Int32)), .val (.int (191 : Int32)), .val (.int (4 : Int32)), .val (.int (own_j3a_167_0_v1 i3 e3_r1))] [(.int (-1 : Int32))])) t → Steps p.tables e below (s₁.setTop (entryFrame m #[(.ref r1), (.int (1 : Int32)), (.int i3)] 9)) t := by
                        intro t k
                        refine pre46 _ ?_
                        show Steps p.tables e below (s₁.setTop (mkF m 167 #[.val (.ref r1), .val (.int (1 : Int32)), .val (.int i3), .val (.int (e1_r1 &&& (255 : Int32))), .val (.int (4 : Int32)), .val (.int (128 : Int32)), .val (.int (191 : Int32)), .val (.int (4 : Int32)), .val (.int (own_j3a_167_0_v1 i3 e3_r1))] [(.int i3), (.int (4 : Int32))])) _
                        refine XS.icmpYes X0.here hx rfl (pc0 := 167) (pc' := 181) rfl (hb hby d3_167) rfl (flt hc167_47).2.1 (by decide) (by decide) ?_
                        show Steps p.tables e below (s₁.setTop (mkF m 181 #[.val (.ref r1), .val (.int (1 : Int32)), .val (.int i3), .val (.int (e1_r1 &&& (255 : Int32))), .val (.int (4 : Int32)), .val (.int (128 : Int32)), .val (.int (191 : Int32)), .val (.int (4 : Int32)), .val (.int (own_j3a_167_0_v1 i3 e3_r1))] [])) _
                        refine XS.iconst X0.here hx rfl (hb hby d3_181) ?_
                        exact k
                      exact fun t k => pre50 t (by rw [show (own_j3a_167_0_v2 i3 e4_r1) = (-1 : Int32) from (if_neg hc167_47)] at k; exact k)
                  have pre52 : ∀ t, Steps p.tables e below (s₁.setTop (mkF m 188 #[.val (.ref r1), .val (.int (1 : Int32)), .val (.int i3), .val (.int (e1_r1 &&& (255 : Int32))), .val (.int (4 : Int32)), .val (.int (128 : Int32)), .val (.int (191 : Int32)), .val (.int (4 : Int32)), .val (.int (own_j3a_167_0_v2 i3 e4_r1))] [(.int (128 : Int32)), (.int (own_j3a_167_0_v2 i3 e4_r1))])) t → Steps p.tables e below (s₁.setTop (entryFrame m #[(.ref r1), (.int (1 : Int32)), (.int i3)] 9)) t := by
                    intro t k
                    refine pre51 _ ?_
                    show Steps p.tables e below (s₁.setTop (mkF m 182 #[.val (.ref r1), .val (.int (1 : Int32)), .val (.int i3), .val (.int (e1_r1 &&& (255 : Int32))), .val (.int (4 : Int32)), .val (.int (128 : Int32)), .val (.int (191 : Int32)), .val (.int (4 : Int32)), .val (.int (own_j3a_167_0_v1 i3 e3_r1))] [(.int (own_j3a_167_0_v2 i3 e4_r1))])) _
                    refine XS.istore X0.here hx rfl (hb hby d3_182) rfl (l' := #[.val (.ref r1), .val (.int (1 : Int32)), .val (.int i3), .val (.int (e1_r1 &&& (255 : Int32))), .val (.int (4 : Int32)), .val (.int (128 : Int32)), .val (.int (191 : Int32)), .val (.int (4 : Int32)), .val (.int (own_j3a_167_0_v2 i3 e4_r1))]) rfl ?_
                    show Steps p.tables e below (s₁.setTop (mkF m 184 #[.val (.ref r1), .val (.int (1 : Int32)), .val (.int i3), .val (.int (e1_r1 &&& (255 : Int32))), .val (.int (4 : Int32)), .val (.int (128 : Int32)), .val (.int (191 : Int32)), .val (.int (4 : Int32)), .val (.int (own_j3a_167_0_v2 i3 e4_r1))] [])) _
                    refine XS.iload X0.here hx rfl (hb hby d3_184) rfl ?_
                    show Steps p.tables e below (s₁.setTop (mkF m 186 #[.val (.ref r1), .val (.int (1 : Int32)), .val (.int i3), .val (.int (e1_r1 &&& (255 : Int32))), .val (.int (4 : Int32)), .val (.int (128 : Int32)), .val (.int (191 : Int32)), .val (.int (4 : Int32)), .val (.int (own_j3a_167_0_v2 i3 e4_r1))] [(.int (own_j3a_167_0_v2 i3 e4_r1))])) _
                    refine XS.iload X0.here hx rfl (hb hby d3_186) rfl ?_
                    exact k
                  by_cases hc188_53 : (own_j3a_167_0_v2 i3 e4_r1) < (128 : Int32)
                  · have pre54 : ∀ t, Steps p.tables e below (s₁.setTop (mkF m 202 #[.val (.ref r1), .val (.int (1 : Int32)), .val (.int i3), .val (.int (e1_r1 &&& (255 : Int32))), .val (.int (4 : Int32)), .val (.int (128 : Int32)), .val (.int (191 : Int32)), .val (.int (4 : Int32)), .val (.int (own_j3a_167_0_v2 i3 e4_r1))] [(.int (-5 : Int32))])) t → Steps p.tables e below (s₁.setTop (entryFrame m #[(.ref r1), (.int (1 : Int32)), (.int i3)] 9)) t := by
                      intro t k
                      refine pre52 _ ?_
                      show Steps p.tables e below (s₁.setTop (mkF m 188 #[.val (.ref r1), .val (.int (1 : Int32)), .val (.int i3), .val (.int (e1_r1 &&& (255 : Int32))), .val (.int (4 : Int32)), .val (.int (128 : Int32)), .val (.int (191 : Int32)), .val (.int (4 : Int32)), .val (.int (own_j3a_167_0_v2 i3 e4_r1))] [(.int (128 : Int32)), (.int (own_j3a_167_0_v2 i3 e4_r1))])) _
                      refine XS.icmpYes X0.here hx rfl (pc0 := 188) (pc' := 198) rfl (hb hby d3_188) rfl (tlt hc188_53).1 (by decide) (by decide) ?_
                      show Steps p.tables e below (s₁.setTop (mkF m 198 #[.val (.ref r1), .val (.int (1 : Int32)), .val (.int i3), .val (.int (e1_r1 &&& (255 : Int32))), .val (.int (4 : Int32)), .val (.int (128 : Int32)), .val (.int (191 : Int32)), .val (.int (4 : Int32)), .val (.int (own_j3a_167_0_v2 i3 e4_r1))] [])) _
                      refine XS.iload X0.here hx rfl (hb hby d3_198) rfl ?_
                      show Steps p.tables e below (s₁.setTop (mkF m 200 #[.val (.ref r1), .val (.int (1 : Int32)), .val (.int i3), .val (.int (e1_r1 &&& (255 : Int32))), .val (.int (4 : Int32)), .val (.int (128 : Int32)), .val (.int (191 : Int32)), .val (.int (4 : Int32)), .val (.int (own_j3a_167_0_v2 i3 e4_r1))] [(.int (4 : Int32))])) _
                      refine XS.iconst X0.here hx rfl (hb hby d3_200) ?_
                      show Steps p.tables e below (s₁.setTop (mkF m 201 #[.val (.ref r1), .val (.int (1 : Int32)), .val (.int i3), .val (.int (e1_r1 &&& (255 : Int32))), .val (.int (4 : Int32)), .val (.int (128 : Int32)), .val (.int (191 : Int32)), .val (.int (4 : Int32)), .val (.int (own_j3a_167_0_v2 i3 e4_r1))] [(.int (-1 : Int32)), (.int (4 : Int32))])) _
                      refine XS.ixor X0.here hx rfl (hb hby d3_201) rfl ?_
                      exact k
                    obtain ⟨fs, hr, hrun, hended, hW, hsame⟩ := X0.leave (v := some (.int (-5 : Int32))) (fun h => by rw [Bd.returns] at h; cases h)
                    refine ⟨_, _, pre54 _ ?_, hrun, hended, _, _, rfl, ?_, ⟨_, rfl⟩, hW, hsame.mono (by decide) (by decide)⟩
                    · show Steps p.tables e below (s₁.setTop (mkF m 202 #[.val (.ref r1), .val (.int (1 : Int32)), .val (.int i3), .val (.int (e1_r1 &&& (255 : Int32))), .val (.int (4 : Int32)), .val (.int (128 : Int32)), .val (.int (191 : Int32)), .val (.int (4 : Int32)), .val (.int (own_j3a_167_0_v2 i3 e4_r1))] [(.int (-5 : Int32))])) _
                      exact retI X0 hx Bd.returns (hb hby d3_202) hr
                    · show Q3a Z r1 i3 e0_r1 e1_r1 e2_r1 e3_r1 e4_r1 e5_r1 k_r1 h0 n0 _ s₁.heap _
                      rw [e0]
                      exact ⟨congrArg (fun z => some (Value.int z)) (show (own_r3a i3 e1_r1 e2_r1 e3_r1 e4_r1) = (-5 : Int32) from ((if_neg hc22_3).trans ((if_pos hc29_6).trans ((if_pos hc49_8).trans ((if_neg hc103_10).trans ((if_neg hc188_29).trans ((if_neg hc195_32).trans ((if_neg hc188_41).trans ((if_neg hc195_44).trans (if_pos hc188_53)))))))))).symm, N0, rfl⟩
                  · have pre55 : ∀ t, Steps p.tables e below (s₁.setTop (mkF m 195 #[.val (.ref r1), .val (.int (1 : Int32)), .val (.int i3), .val (.int (e1_r1 &&& (255 : Int32))), .val (.int (4 : Int32)), .val (.int (128 : Int32)), .val (.int (191 : Int32)), .val (.int (4 : Int32)), .val (.int (own_j3a_167_0_v2 i3 e4_r1))] [(.int (191 : Int32)), (.int (own_j3a_167_0_v2 i3 e4_r1))])) t → Steps p.tables e below (s₁.setTop (entryFrame m #[(.ref r1), (.int (1 : Int32)), (.int i3)] 9)) t := by
                      intro t k
                      refine pre52 _ ?_
                      show Steps p.tables e below (s₁.setTop (mkF m 188 #[.val (.ref r1), .val (.int (1 : Int32)), .val (.int i3), .val (.int (e1_r1 &&& (255 : Int32))), .val (.int (4 : Int32)), .val (.int (128 : Int32)), .val (.int (191 : Int32)), .val (.int (4 : Int32)), .val (.int (own_j3a_167_0_v2 i3 e4_r1))] [(.int (128 : Int32)), (.int (own_j3a_167_0_v2 i3 e4_r1))])) _
                      refine XS.icmpNo X0.here hx rfl (hb hby d3_188) rfl (flt hc188_53).1 ?_
                      show Steps p.tables e below (s₁.setTop (mkF m 191 #[.val (.ref r1), .val (.int (1 : Int32)), .val (.int i3), .val (.int (e1_r1 &&& (255 : Int32))), .val (.int (4 : Int32)), .val (.int (128 : Int32)), .val (.int (191 : Int32)), .val (.int (4 : Int32)), .val (.int (own_j3a_167_0_v2 i3 e4_r1))] [])) _
                      refine XS.iload X0.here hx rfl (hb hby d3_191) rfl ?_
                      show Steps p.tables e below (s₁.setTop (mkF m 193 #[.val (.ref r1), .val (.int (1 : Int32)), .val (.int i3), .val (.int (e1_r1 &&& (255 : Int32))), .val (.int (4 : Int32)), .val (.int (128 : Int32)), .val (.int (191 : Int32)), .val (.int (4 : Int32)), .val (.int (own_j3a_167_0_v2 i3 e4_r1))] [(.int (own_j3a_167_0_v2 i3 e4_r1))])) _
                      refine XS.iload X0.here hx rfl (hb hby d3_193) rfl ?_
                      exact k
                    by_cases hc195_56 : (191 : Int32) < (own_j3a_167_0_v2 i3 e4_r1)
                    · have pre57 : ∀ t, Steps p.tables e below (s₁.setTop (mkF m 202 #[.val (.ref r1), .val (.int (1 : Int32)), .val (.int i3), .val (.int (e1_r1 &&& (255 : Int32))), .val (.int (4 : Int32)), .val (.int (128 : Int32)), .val (.int (191 : Int32)), .val (.int (4 : Int32)), .val (.int (own_j3a_167_0_v2 i3 e4_r1))] [(.int (-5 : Int32))])) t → Steps p.tables e below (s₁.setTop (entryFrame m #[(.ref r1), (.int (1 : Int32)), (.int i3)] 9)) t := by
                        intro t k
                        refine pre55 _ ?_
                        show Steps p.tables e below (s₁.setTop (mkF m 195 #[.val (.ref r1), .val (.int (1 : Int32)), .val (.int i3), .val (.int (e1_r1 &&& (255 : Int32))), .val (.int (4 : Int32)), .val (.int (128 : Int32)), .val (.int (191 : Int32)), .val (.int (4 : Int32)), .val (.int (own_j3a_167_0_v2 i3 e4_r1))] [(.int (191 : Int32)), (.int (own_j3a_167_0_v2 i3 e4_r1))])) _
                        refine XS.icmpNo X0.here hx rfl (hb hby d3_195) rfl (tlt hc195_56).2.2.2 ?_
                        show Steps p.tables e below (s₁.setTop (mkF m 198 #[.val (.ref r1), .val (.int (1 : Int32)), .val (.int i3), .val (.int (e1_r1 &&& (255 : Int32))), .val (.int (4 : Int32)), .val (.int (128 : Int32)), .val (.int (191 : Int32)), .val (.int (4 : Int32)), .val (.int (own_j3a_167_0_v2 i3 e4_r1))] [])) _
                        refine XS.iload X0.here hx rfl (hb hby d3_198) rfl ?_
                        show Steps p.tables e below (s₁.setTop (mkF m 200 #[.val (.ref r1), .val (.int (1 : Int32)), .val (.int i3), .val (.int (e1_r1 &&& (255 : Int32))), .val (.int (4 : Int32)), .val (.int (128 : Int32)), .val (.int (191 : Int32)), .val (.int (4 : Int32)), .val (.int (own_j3a_167_0_v2 i3 e4_r1))] [(.int (4 : Int32))])) _
                        refine XS.iconst X0.here hx rfl (hb hby d3_200) ?_
                        show Steps p.tables e below (s₁.setTop (mkF m 201 #[.val (.ref r1), .val (.int (1 : Int32)), .val (.int i3), .val (.int (e1_r1 &&& (255 : Int32))), .val (.int (4 : Int32)), .val (.int (128 : Int32)), .val (.int (191 : Int32)), .val (.int (4 : Int32)), .val (.int (own_j3a_167_0_v2 i3 e4_r1))] [(.int (-1 : Int32)), (.int (4 : Int32))])) _
                        refine XS.ixor X0.here hx rfl (hb hby d3_201) rfl ?_
                        exact k
                      obtain ⟨fs, hr, hrun, hended, hW, hsame⟩ := X0.leave (v := some (.int (-5 : Int32))) (fun h => by rw [Bd.returns] at h; cases h)
                      refine ⟨_, _, pre57 _ ?_, hrun, hended, _, _, rfl, ?_, ⟨_, rfl⟩, hW, hsame.mono (by decide) (by decide)⟩
                      · show Steps p.tables e below (s₁.setTop (mkF m 202 #[.val (.ref r1), .val (.int (1 : Int32)), .val (.int i3), .val (.int (e1_r1 &&& (255 : Int32))), .val (.int (4 : Int32)), .val (.int (128 : Int32)), .val (.int (191 : Int32)), .val (.int (4 : Int32)), .val (.int (own_j3a_167_0_v2 i3 e4_r1))] [(.int (-5 : Int32))])) _
                        exact retI X0 hx Bd.returns (hb hby d3_202) hr
                      · show Q3a Z r1 i3 e0_r1 e1_r1 e2_r1 e3_r1 e4_r1 e5_r1 k_r1 h0 n0 _ s₁.heap _
                        rw [e0]
                        exact ⟨congrArg (fun z => some (Value.int z)) (show (own_r3a i3 e1_r1 e2_r1 e3_r1 e4_r1) = (-5 : Int32) from ((if_neg hc22_3).trans ((if_pos hc29_6).trans ((if_pos hc49_8).trans ((if_neg hc103_10).trans ((if_neg hc188_29).trans ((if_neg hc195_32).trans ((if_neg hc188_41).trans ((if_neg hc195_44).trans ((if_neg hc188_53).trans (if_pos hc195_56))))))))))).symm, N0, rfl⟩
                    · have pre58 : ∀ t, Steps p.tables e below (s₁.setTop (mkF m 223 #[.val (.ref r1), .val (.int (1 : Int32)), .val (.int i3), .val (.int (e1_r1 &&& (255 : Int32))), .val (.int (4 : Int32)), .val (.int (128 : Int32)), .val (.int (191 : Int32)), .val (.int (5 : Int32)), .val (.int (own_j3a_167_0_v2 i3 e4_r1))] [(.int (5 : Int32))])) t → Steps p.tables e below (s₁.setTop (entryFrame m #[(.ref r1), (.int (1 : Int32)), (.int i3)] 9)) t := by
                        intro t k
                        refine pre55 _ ?_
                        show Steps p.tables e below (s₁.setTop (mkF m 195 #[.val (.ref r1), .val (.int (1 : Int32)), .val (.int i3), .val (.int (e1_r1 &&& (255 : Int32))), .val (.int (4 : Int32)), .val (.int (128 : Int32)), .val (.int (191 : Int32)), .val (.int (4 : Int32)), .val (.int (own_j3a_167_0_v2 i3 e4_r1))] [(.int (191 : Int32)), (.int (own_j3a_167_0_v2 i3 e4_r1))])) _
                        refine XS.icmpYes X0.here hx rfl (pc0 := 195) (pc' := 203) rfl (hb hby d3_195) rfl (flt hc195_56).2.2.2 (by decide) (by decide) ?_
                        show Steps p.tables e below (s₁.setTop (mkF m 203 #[.val (.ref r1), .val (.int (1 : Int32)), .val (.int i3), .val (.int (e1_r1 &&& (255 : Int32))), .val (.int (4 : Int32)), .val (.int (128 : Int32)), .val (.int (191 : Int32)), .val (.int (4 : Int32)), .val (.int (own_j3a_167_0_v2 i3 e4_r1))] [])) _
                        refine XS.sipush X0.here hx rfl (hb hby d3_203) ?_
                        show Steps p.tables e below (s₁.setTop (mkF m 206 #[.val (.ref r1), .val (.int (1 : Int32)), .val (.int i3), .val (.int (e1_r1 &&& (255 : Int32))), .val (.int (4 : Int32)), .val (.int (128 : Int32)), .val (.int (191 : Int32)), .val (.int (4 : Int32)), .val (.int (own_j3a_167_0_v2 i3 e4_r1))] [(.int (128 : Int32))])) _
                        refine XS.istore X0.here hx rfl (hb hby d3_206) rfl (l' := #[.val (.ref r1), .val (.int (1 : Int32)), .val (.int i3), .val (.int (e1_r1 &&& (255 : Int32))), .val (.int (4 : Int32)), .val (.int (128 : Int32)), .val (.int (191 : Int32)), .val (.int (4 : Int32)), .val (.int (own_j3a_167_0_v2 i3 e4_r1))]) rfl ?_
                        show Steps p.tables e below (s₁.setTop (mkF m 208 #[.val (.ref r1), .val (.int (1 : Int32)), .val (.int i3), .val (.int (e1_r1 &&& (255 : Int32))), .val (.int (4 : Int32)), .val (.int (128 : Int32)), .val (.int (191 : Int32)), .val (.int (4 : Int32)), .val (.int (own_j3a_167_0_v2 i3 e4_r1))] [])) _
                        refine XS.sipush X0.here hx rfl (hb hby d3_208) ?_
                        show Steps p.tables e below (s₁.setTop (mkF m 211 #[.val (.ref r1), .val (.int (1 : Int32)), .val (.int i3), .val (.int (e1_r1 &&& (255 : Int32))), .val (.int (4 : Int32)), .val (.int (128 : Int32)), .val (.int (191 : Int32)), .val (.int (4 : Int32)), .val (.int (own_j3a_167_0_v2 i3 e4_r1))] [(.int (191 : Int32))])) _
                        refine XS.istore X0.here hx rfl (hb hby d3_211) rfl (l' := #[.val (.ref r1), .val (.int (1 : Int32)), .val (.int i3), .val (.int (e1_r1 &&& (255 : Int32))), .val (.int (4 : Int32)), .val (.int (128 : Int32)), .val (.int (191 : Int32)), .val (.int (4 : Int32)), .val (.int (own_j3a_167_0_v2 i3 e4_r1))]) rfl ?_
                        show Steps p.tables e below (s₁.setTop (mkF m 213 #[.val (.ref r1), .val (.int (1 : Int32)), .val (.int i3), .val (.int (e1_r1 &&& (255 : Int32))), .val (.int (4 : Int32)), .val (.int (128 : Int32)), .val (.int (191 : Int32)), .val (.int (4 : Int32)), .val (.int (own_j3a_167_0_v2 i3 e4_r1))] [])) _
                        refine XS.iinc X0.here hx rfl (hb hby d3_213) rfl (l' := #[.val (.ref r1), .val (.int (1 : Int32)), .val (.int i3), .val (.int (e1_r1 &&& (255 : Int32))), .val (.int (4 : Int32)), .val (.int (128 : Int32)), .val (.int (191 : Int32)), .val (.int (5 : Int32)), .val (.int (own_j3a_167_0_v2 i3 e4_r1))]) rfl ?_
                        show Steps p.tables e below (s₁.setTop (mkF m 216 #[.val (.ref r1), .val (.int (1 : Int32)), .val (.int i3), .val (.int (e1_r1 &&& (255 : Int32))), .val (.int (4 : Int32)), .val (.int (128 : Int32)), .val (.int (191 : Int32)), .val (.int (5 : Int32)), .val (.int (own_j3a_167_0_v2 i3 e4_r1))] [])) _
                        refine XS.goto X0.here hx rfl (pc0 := 216) (pc' := 155) rfl (hb hby d3_216) (by decide) (by decide) ?_
                        show Steps p.tables e below (s₁.setTop (mkF m 155 #[.val (.ref r1), .val (.int (1 : Int32)), .val (.int i3), .val (.int (e1_r1 &&& (255 : Int32))), .val (.int (4 : Int32)), .val (.int (128 : Int32)), .val (.int (191 : Int32)), .val (.int (5 : Int32)), .val (.int (own_j3a_167_0_v2 i3 e4_r1))] [])) _
                        refine XS.iload X0.here hx rfl (hb hby d3_155) rfl ?_
                        show Steps p.tables e below (s₁.setTop (mkF m 157 #[.val (.ref r1), .val (.int (1 : Int32)), .val (.int i3), .val (.int (e1_r1 &&& (255 : Int32))), .val (.int (4 : Int32)), .val (.int (128 : Int32)), .val (.int (191 : Int32)), .val (.int (5 : Int32)), .val (.int (own_j3a_167_0_v2 i3 e4_r1))] [(.int (5 : Int32))])) _
                        refine XS.iloadN X0.here hx rfl (hb hby d3_157) rfl ?_
                        show Steps p.tables e below (s₁.setTop (mkF m 158 #[.val (.ref r1), .val (.int (1 : Int32)), .val (.int i3), .val (.int (e1_r1 &&& (255 : Int32))), .val (.int (4 : Int32)), .val (.int (128 : Int32)), .val (.int (191 : Int32)), .val (.int (5 : Int32)), .val (.int (own_j3a_167_0_v2 i3 e4_r1))] [(.int (1 : Int32)), (.int (5 : Int32))])) _
                        refine XS.iload X0.here hx rfl (hb hby d3_158) rfl ?_
                        show Steps p.tables e below (s₁.setTop (mkF m 160 #[.val (.ref r1), .val (.int (1 : Int32)), .val (.int i3), .val (.int (e1_r1 &&& (255 : Int32))), .val (.int (4 : Int32)), .val (.int (128 : Int32)), .val (.int (191 : Int32)), .val (.int (5 : Int32)), .val (.int (own_j3a_167_0_v2 i3 e4_r1))] [(.int (4 : Int32)), (.int (1 : Int32)), (.int (5 : Int32))])) _
                        refine XS.iadd X0.here hx rfl (hb hby d3_160) rfl ?_
                        show Steps p.tables e below (s₁.setTop (mkF m 161 #[.val (.ref r1), .val (.int (1 : Int32)), .val (.int i3), .val (.int (e1_r1 &&& (255 : Int32))), .val (.int (4 : Int32)), .val (.int (128 : Int32)), .val (.int (191 : Int32)), .val (.int (5 : Int32)), .val (.int (own_j3a_167_0_v2 i3 e4_r1))] [(.int (5 : Int32)), (.int (5 : Int32))])) _
                        refine XS.icmpYes X0.here hx rfl (pc0 := 161) (pc' := 219) rfl (hb hby d3_161) rfl (flt (by decide : ¬ ((5 : Int32) < (5 : Int32)))).2.1 (by decide) (by decide) ?_
                        show Steps p.tables e below (s₁.setTop (mkF m 219 #[.val (.ref r1), .val (.int (1 : Int32)), .val (.int i3), .val (.int (e1_r1 &&& (255 : Int32))), .val (.int (4 : Int32)), .val (.int (128 : Int32)), .val (.int (191 : Int32)), .val (.int (5 : Int32)), .val (.int (own_j3a_167_0_v2 i3 e4_r1))] [])) _
                        refine XS.iloadN X0.here hx rfl (hb hby d3_219) rfl ?_
                        show Steps p.tables e below (s₁.setTop (mkF m 220 #[.val (.ref r1), .val (.int (1 : Int32)), .val (.int i3), .val (.int (e1_r1 &&& (255 : Int32))), .val (.int (4 : Int32)), .val (.int (128 : Int32)), .val (.int (191 : Int32)), .val (.int (5 : Int32)), .val (.int (own_j3a_167_0_v2 i3 e4_r1))] [(.int (1 : Int32))])) _
                        refine XS.iload X0.here hx rfl (hb hby d3_220) rfl ?_
                        show Steps p.tables e below (s₁.setTop (mkF m 222 #[.val (.ref r1), .val (.int (1 : Int32)), .val (.int i3), .val (.int (e1_r1 &&& (255 : Int32))), .val (.int (4 : Int32)), .val (.int (128 : Int32)), .val (.int (191 : Int32)), .val (.int (5 : Int32)), .val (.int (own_j3a_167_0_v2 i3 e4_r1))] [(.int (4 : Int32)), (.int (1 : Int32))])) _
                        refine XS.iadd X0.here hx rfl (hb hby d3_222) rfl ?_
                        exact k
                      obtain ⟨fs, hr, hrun, hended, hW, hsame⟩ := X0.leave (v := some (.int (5 : Int32))) (fun h => by rw [Bd.returns] at h; cases h)
                      refine ⟨_, _, pre58 _ ?_, hrun, hended, _, _, rfl, ?_, ⟨_, rfl⟩, hW, hsame.mono (by decide) (by decide)⟩
                      · show Steps p.tables e below (s₁.setTop (mkF m 223 #[.val (.ref r1), .val (.int (1 : Int32)), .val (.int i3), .val (.int (e1_r1 &&& (255 : Int32))), .val (.int (4 : Int32)), .val (.int (128 : Int32)), .val (.int (191 : Int32)), .val (.int (5 : Int32)), .val (.int (own_j3a_167_0_v2 i3 e4_r1))] [(.int (5 : Int32))])) _
                        exact retI X0 hx Bd.returns (hb hby d3_223) hr
                      · show Q3a Z r1 i3 e0_r1 e1_r1 e2_r1 e3_r1 e4_r1 e5_r1 k_r1 h0 n0 _ s₁.heap _
                        rw [e0]
                        exact ⟨congrArg (fun z => some (Value.int z)) (show (own_r3a i3 e1_r1 e2_r1 e3_r1 e4_r1) = (5 : Int32) from ((if_neg hc22_3).trans ((if_pos hc29_6).trans ((if_pos hc49_8).trans ((if_neg hc103_10).trans ((if_neg hc188_29).trans ((if_neg hc195_32).trans ((if_neg hc188_41).trans ((if_neg hc195_44).trans ((if_neg hc188_53).trans (if_neg hc195_56))))))))))).symm, N0, rfl⟩
      · have pre59 : ∀ t, Steps p.tables e below (s₁.setTop (mkF m 59 #[.val (.ref r1), .val (.int (1 : Int32)), .val (.int i3), .val (.int (e1_r1 &&& (255 : Int32))), .val (.int (3 : Int32)), .val (.int (128 : Int32)), .val (.int (191 : Int32)), .unset, .unset] [(.int (224 : Int32)), (.int (e1_r1 &&& (255 : Int32)))])) t → Steps p.tables e below (s₁.setTop (entryFrame m #[(.ref r1), (.int (1 : Int32)), (.int i3)] 9)) t := by
          intro t k
          refine pre7 _ ?_
          show Steps p.tables e below (s₁.setTop (mkF m 49 #[.val (.ref r1), .val (.int (1 : Int32)), .val (.int i3), .val (.int (e1_r1 &&& (255 : Int32))), .unset, .val (.int (128 : Int32)), .val (.int (191 : Int32)), .unset, .unset] [(.int (239 : Int32)), (.int (e1_r1 &&& (255 : Int32)))])) _
          refine XS.icmpNo X0.here hx rfl (hb hby d3_49) rfl (flt hc49_8).2.2.1 ?_
          show Steps p.tables e below (s₁.setTop (mkF m 52 #[.val (.ref r1), .val (.int (1 : Int32)), .val (.int i3), .val (.int (e1_r1 &&& (255 : Int32))), .unset, .val (.int (128 : Int32)), .val (.int (191 : Int32)), .unset, .unset] [])) _
          refine XS.iconst X0.here hx rfl (hb hby d3_52) ?_
          show Steps p.tables e below (s₁.setTop (mkF m 53 #[.val (.ref r1), .val (.int (1 : Int32)), .val (.int i3), .val (.int (e1_r1 &&& (255 : Int32))), .unset, .val (.int (128 : Int32)), .val (.int (191 : Int32)), .unset, .unset] [(.int (3 : Int32))])) _
          refine XS.istore X0.here hx rfl (hb hby d3_53) rfl (l' := #[.val (.ref r1), .val (.int (1 : Int32)), .val (.int i3), .val (.int (e1_r1 &&& (255 : Int32))), .val (.int (3 : Int32)), .val (.int (128 : Int32)), .val (.int (191 : Int32)), .unset, .unset]) rfl ?_
          show Steps p.tables e below (s₁.setTop (mkF m 55 #[.val (.ref r1), .val (.int (1 : Int32)), .val (.int i3), .val (.int (e1_r1 &&& (255 : Int32))), .val (.int (3 : Int32)), .val (.int (128 : Int32)), .val (.int (191 : Int32)), .unset, .unset] [])) _
          refine XS.iloadN X0.here hx rfl (hb hby d3_55) rfl ?_
          show Steps p.tables e below (s₁.setTop (mkF m 56 #[.val (.ref r1), .val (.int (1 : Int32)), .val (.int i3), .val (.int (e1_r1 &&& (255 : Int32))), .val (.int (3 : Int32)), .val (.int (128 : Int32)), .val (.int (191 : Int32)), .unset, .unset] [(.int (e1_r1 &&& (255 : Int32)))])) _
          refine XS.sipush X0.here hx rfl (hb hby d3_56) ?_
          exact k
        have pre63 : ∀ t, Steps p.tables e below (s₁.setTop (mkF m 70 #[.val (.ref r1), .val (.int (1 : Int32)), .val (.int i3), .val (.int (e1_r1 &&& (255 : Int32))), .val (.int (3 : Int32)), .val (.int (128 : Int32)), .val (.int (191 : Int32)), .unset, .unset] [(.int (own_j3a_59_0 e1_r1))])) t → Steps p.tables e below (s₁.setTop (entryFrame m #[(.ref r1), (.int (1 : Int32)), (.int i3)] 9)) t := by
          by_cases hc59_60 : (e1_r1 &&& (255 : Int32)) = (224 : Int32)
          · have pre61 : ∀ t, Steps p.tables e below (s₁.setTop (mkF m 70 #[.val (.ref r1), .val (.int (1 : Int32)), .val (.int i3), .val (.int (e1_r1 &&& (255 : Int32))), .val (.int (3 : Int32)), .val (.int (128 : Int32)), .val (.int (191 : Int32)), .unset, .unset] [(.int (160 : Int32))])) t → Steps p.tables e below (s₁.setTop (entryFrame m #[(.ref r1), (.int (1 : Int32)), (.int i3)] 9)) t := by
              intro t k
              refine pre59 _ ?_
              show Steps p.tables e below (s₁.setTop (mkF m 59 #[.val (.ref r1), .val (.int (1 : Int32)), .val (.int i3), .val (.int (e1_r1 &&& (255 : Int32))), .val (.int (3 : Int32)), .val (.int (128 : Int32)), .val (.int (191 : Int32)), .unset, .unset] [(.int (224 : Int32)), (.int (e1_r1 &&& (255 : Int32)))])) _
              refine XS.icmpNo X0.here hx rfl (hb hby d3_59) rfl (teq hc59_60).2 ?_
              show Steps p.tables e below (s₁.setTop (mkF m 62 #[.val (.ref r1), .val (.int (1 : Int32)), .val (.int i3), .val (.int (e1_r1 &&& (255 : Int32))), .val (.int (3 : Int32)), .val (.int (128 : Int32)), .val (.int (191 : Int32)), .unset, .unset] [])) _
              refine XS.sipush X0.here hx rfl (hb hby d3_62) ?_
              show Steps p.tables e below (s₁.setTop (mkF m 65 #[.val (.ref r1), .val (.int (1 : Int32)), .val (.int i3), .val (.int (e1_r1 &&& (255 : Int32))), .val (.int (3 : Int32)), .val (.int (128 : Int32)), .val (.int (191 : Int32)), .unset, .unset] [(.int (160 : Int32))])) _
              refine XS.goto X0.here hx rfl (pc0 := 65) (pc' := 70) rfl (hb hby d3_65) (by decide) (by decide) ?_
              exact k
            exact fun t k => pre61 t (by rw [show (own_j3a_59_0 e1_r1) = (160 : Int32) from (if_pos hc59_60)] at k; exact k)
          · have pre62 : ∀ t, Steps p.tables e below (s₁.setTop (mkF m 70 #[.val (.ref r1), .val (.int (1 : Int32)), .val (.int i3), .val (.int (e1_r1 &&& (255 : Int32))), .val (.int (3 : Int32)), .val (.int (128 : Int32)), .val (.int (191 : Int32)), .unset, .unset] [(.int (128 : Int32))])) t → Steps p.tables e below (s₁.setTop (entryFrame m #[(.ref r1), (.int (1 : Int32)), (.int i3)] 9)) t := by
              intro t k
              refine pre59 _ ?_
              show Steps p.tables e below (s₁.setTop (mkF m 59 #[.val (.ref r1), .val (.int (1 : Int32)), .val (.int i3), .val (.int (e1_r1 &&& (255 : Int32))), .val (.int (3 : Int32)), .val (.int (128 : Int32)), .val (.int (191 : Int32)), .unset, .unset] [(.int (224 : Int32)), (.int (e1_r1 &&& (255 : Int32)))])) _
              refine XS.icmpYes X0.here hx rfl (pc0 := 59) (pc' := 68) rfl (hb hby d3_59) rfl (feq hc59_60).2 (by decide) (by decide) ?_
              show Steps p.tables e below (s₁.setTop (mkF m 68 #[.val (.ref r1), .val (.int (1 : Int32)), .val (.int i3), .val (.int (e1_r1 &&& (255 : Int32))), .val (.int (3 : Int32)), .val (.int (128 : Int32)), .val (.int (191 : Int32)), .unset, .unset] [])) _
              refine XS.iload X0.here hx rfl (hb hby d3_68) rfl ?_
              exact k
            exact fun t k => pre62 t (by rw [show (own_j3a_59_0 e1_r1) = (128 : Int32) from (if_neg hc59_60)] at k; exact k)
        have pre64 : ∀ t, Steps p.tables e below (s₁.setTop (mkF m 76 #[.val (.ref r1), .val (.int (1 : Int32)), .val (.int i3), .val (.int (e1_r1 &&& (255 : Int32))), .val (.int (3 : Int32)), .val (.int (own_j3a_59_0 e1_r1)), .val (.int (191 : Int32)), .unset, .unset] [(.int (237 : Int32)), (.int (e1_r1 &&& (255 : Int32)))])) t → Steps p.tables e below (s₁.setTop (entryFrame m #[(.ref r1), (.int (1 : Int32)), (.int i3)] 9)) t := by
          intro t k
          refine pre63 _ ?_
          show Steps p.tables e below (s₁.setTop (mkF m 70 #[.val (.ref r1), .val (.int (1 : Int32)), .val (.int i3), .val (.int (e1_r1 &&& (255 : Int32))), .val (.int (3 : Int32)), .val (.int (128 : Int32)), .val (.int (191 : Int32)), .unset, .unset] [(.int (own_j3a_59_0 e1_r1))])) _
          refine XS.istore X0.here hx rfl (hb hby d3_70) rfl (l' := #[.val (.ref r1), .val (.int (1 : Int32)), .val (.int i3), .val (.int (e1_r1 &&& (255 : Int32))), .val (.int (3 : Int32)), .val (.int (own_j3a_59_0 e1_r1)), .val (.int (191 : Int32)), .unset, .unset]) rfl ?_
          show Steps p.tables e below (s₁.setTop (mkF m 72 #[.val (.ref r1), .val (.int (1 : Int32)), .val (.int i3), .val (.int (e1_r1 &&& (255 : Int32))), .val (.int (3 : Int32)), .val (.int (own_j3a_59_0 e1_r1)), .val (.int (191 : Int32)), .unset, .unset] [])) _
          refine XS.iloadN X0.here hx rfl (hb hby d3_72) rfl ?_
          show Steps p.tables e below (s₁.setTop (mkF m 73 #[.val (.ref r1), .val (.int (1 : Int32)), .val (.int i3), .val (.int (e1_r1 &&& (255 : Int32))), .val (.int (3 : Int32)), .val (.int (own_j3a_59_0 e1_r1)), .val (.int (191 : Int32)), .unset, .unset] [(.int (e1_r1 &&& (255 : Int32)))])) _
          refine XS.sipush X0.here hx rfl (hb hby d3_73) ?_
          exact k
        have pre68 : ∀ t, Steps p.tables e below (s₁.setTop (mkF m 87 #[.val (.ref r1), .val (.int (1 : Int32)), .val (.int i3), .val (.int (e1_r1 &&& (255 : Int32))), .val (.int (3 : Int32)), .val (.int (own_j3a_59_0 e1_r1)), .val (.int (191 : Int32)), .unset, .unset] [(.int (own_j3a_76_0 e1_r1))])) t → Steps p.tables e below (s₁.setTop (entryFrame m #[(.ref r1), (.int (1 : Int32)), (.int i3)] 9)) t := by
          by_cases hc76_65 : (e1_r1 &&& (255 : Int32)) = (237 : Int32)
          · have pre66 : ∀ t, Steps p.tables e below (s₁.setTop (mkF m 87 #[.val (.ref r1), .val (.int (1 : Int32)), .val (.int i3), .val (.int (e1_r1 &&& (255 : Int32))), .val (.int (3 : Int32)), .val (.int (own_j3a_59_0 e1_r1)), .val (.int (191 : Int32)), .unset, .unset] [(.int (159 : Int32))])) t → Steps p.tables e below (s₁.setTop (entryFrame m #[(.ref r1), (.int (1 : Int32)), (.int i3)] 9)) t := by
              intro t k
              refine pre64 _ ?_
              show Steps p.tables e below (s₁.setTop (mkF m 76 #[.val (.ref r1), .val (.int (1 : Int32)), .val (.int i3), .val (.int (e1_r1 &&& (255 : Int32))), .val (.int (3 : Int32)), .val (.int (own_j3a_59_0 e1_r1)), .val (.int (191 : Int32)), .unset, .unset] [(.int (237 : Int32)), (.int (e1_r1 &&& (255 : Int32)))])) _
              refine XS.icmpNo X0.here hx rfl (hb hby d3_76) rfl (teq hc76_65).2 ?_
              show Steps p.tables e below (s₁.setTop (mkF m 79 #[.val (.ref r1), .val (.int (1 : Int32)), .val (.int i3), .val (.int (e1_r1 &&& (255 : Int32))), .val (.int (3 : Int32)), .val (.int (own_j3a_59_0 e1_r1)), .val (.int (191 : Int32)), .unset, .unset] [])) _
              refine XS.sipush X0.here hx rfl (hb hby d3_79) ?_
              show Steps p.tables e below (s₁.setTop (mkF m 82 #[.val (.ref r1), .val (.int (1 : Int32)), .val (.int i3), .val (.int (e1_r1 &&& (255 : Int32))), .val (.int (3 : Int32)), .val (.int (own_j3a_59_0 e1_r1)), .val (.int (191 : Int32)), .unset, .unset] [(.int (159 : Int32))])) _
              refine XS.goto X0.here hx rfl (pc0 := 82) (pc' := 87) rfl (hb hby d3_82) (by decide) (by decide) ?_
              exact k
            exact fun t k => pre66 t (by rw [show (own_j3a_76_0 e1_r1) = (159 : Int32) from (if_pos hc76_65)] at k; exact k)
          · have pre67 : ∀ t, Steps p.tables e below (s₁.setTop (mkF m 87 #[.val (.ref r1), .val (.int (1 : Int32)), .val (.int i3), .val (.int (e1_r1 &&& (255 : Int32))), .val (.int (3 : Int32)), .val (.int (own_j3a_59_0 e1_r1)), .val (.int (191 : Int32)), .unset, .unset] [(.int (191 : Int32))])) t → Steps p.tables e below (s₁.setTop (entryFrame m #[(.ref r1), (.int (1 : Int32)), (.int i3)] 9)) t := by
              intro t k
              refine pre64 _ ?_
              show Steps p.tables e below (s₁.setTop (mkF m 76 #[.val (.ref r1), .val (.int (1 : Int32)), .val (.int i3), .val (.int (e1_r1 &&& (255 : Int32))), .val (.int (3 : Int32)), .val (.int (own_j3a_59_0 e1_r1)), .val (.int (191 : Int32)), .unset, .unset] [(.int (237 : Int32)), (.int (e1_r1 &&& (255 : Int32)))])) _
              refine XS.icmpYes X0.here hx rfl (pc0 := 76) (pc' := 85) rfl (hb hby d3_76) rfl (feq hc76_65).2 (by decide) (by decide) ?_
              show Steps p.tables e below (s₁.setTop (mkF m 85 #[.val (.ref r1), .val (.int (1 : Int32)), .val (.int i3), .val (.int (e1_r1 &&& (255 : Int32))), .val (.int (3 : Int32)), .val (.int (own_j3a_59_0 e1_r1)), .val (.int (191 : Int32)), .unset, .unset] [])) _
              refine XS.iload X0.here hx rfl (hb hby d3_85) rfl ?_
              exact k
            exact fun t k => pre67 t (by rw [show (own_j3a_76_0 e1_r1) = (191 : Int32) from (if_neg hc76_65)] at k; exact k)
        have pre69 : ∀ t, Steps p.tables e below (s₁.setTop (mkF m 167 #[.val (.ref r1), .val (.int (1 : Int32)), .val (.int i3), .val (.int (e1_r1 &&& (255 : Int32))), .val (.int (3 : Int32)), .val (.int (own_j3a_59_0 e1_r1)), .val (.int (own_j3a_76_0 e1_r1)), .val (.int (2 : Int32)), .unset] [(.int i3), (.int (2 : Int32))])) t → Steps p.tables e below (s₁.setTop (entryFrame m #[(.ref r1), (.int (1 : Int32)), (.int i3)] 9)) t := by
          intro t k
          refine pre68 _ ?_
          show Steps p.tables e below (s₁.setTop (mkF m 87 #[.val (.ref r1), .val (.int (1 : Int32)), .val (.int i3), .val (.int (e1_r1 &&& (255 : Int32))), .val (.int (3 : Int32)), .val (.int (own_j3a_59_0 e1_r1)), .val (.int (191 : Int32)), .unset, .unset] [(.int (own_j3a_76_0 e1_r1))])) _
          refine XS.istore X0.here hx rfl (hb hby d3_87) rfl (l' := #[.val (.ref r1), .val (.int (1 : Int32)), .val (.int i3), .val (.int (e1_r1 &&& (255 : Int32))), .val (.int (3 : Int32)), .val (.int (own_j3a_59_0 e1_r1)), .val (.int (own_j3a_76_0 e1_r1)), .unset, .unset]) rfl ?_
          show Steps p.tables e below (s₁.setTop (mkF m 89 #[.val (.ref r1), .val (.int (1 : Int32)), .val (.int i3), .val (.int (e1_r1 &&& (255 : Int32))), .val (.int (3 : Int32)), .val (.int (own_j3a_59_0 e1_r1)), .val (.int (own_j3a_76_0 e1_r1)), .unset, .unset] [])) _
          refine XS.goto X0.here hx rfl (pc0 := 89) (pc' := 150) rfl (hb hby d3_89) (by decide) (by decide) ?_
          show Steps p.tables e below (s₁.setTop (mkF m 150 #[.val (.ref r1), .val (.int (1 : Int32)), .val (.int i3), .val (.int (e1_r1 &&& (255 : Int32))), .val (.int (3 : Int32)), .val (.int (own_j3a_59_0 e1_r1)), .val (.int (own_j3a_76_0 e1_r1)), .unset, .unset] [])) _
          refine XS.iloadN X0.here hx rfl (hb hby d3_150) rfl ?_
          show Steps p.tables e below (s₁.setTop (mkF m 151 #[.val (.ref r1), .val (.int (1 : Int32)), .val (.int i3), .val (.int (e1_r1 &&& (255 : Int32))), .val (.int (3 : Int32)), .val (.int (own_j3a_59_0 e1_r1)), .val (.int (own_j3a_76_0 e1_r1)), .unset, .unset] [(.int (1 : Int32))])) _
          refine XS.iconst X0.here hx rfl (hb hby d3_151) ?_
          show Steps p.tables e below (s₁.setTop (mkF m 152 #[.val (.ref r1), .val (.int (1 : Int32)), .val (.int i3), .val (.int (e1_r1 &&& (255 : Int32))), .val (.int (3 : Int32)), .val (.int (own_j3a_59_0 e1_r1)), .val (.int (own_j3a_76_0 e1_r1)), .unset, .unset] [(.int (1 : Int32)), (.int (1 : Int32))])) _
          refine XS.iadd X0.here hx rfl (hb hby d3_152) rfl ?_
          show Steps p.tables e below (s₁.setTop (mkF m 153 #[.val (.ref r1), .val (.int (1 : Int32)), .val (.int i3), .val (.int (e1_r1 &&& (255 : Int32))), .val (.int (3 : Int32)), .val (.int (own_j3a_59_0 e1_r1)), .val (.int (own_j3a_76_0 e1_r1)), .unset, .unset] [(.int (2 : Int32))])) _
          refine XS.istore X0.here hx rfl (hb hby d3_153) rfl (l' := #[.val (.ref r1), .val (.int (1 : Int32)), .val (.int i3), .val (.int (e1_r1 &&& (255 : Int32))), .val (.int (3 : Int32)), .val (.int (own_j3a_59_0 e1_r1)), .val (.int (own_j3a_76_0 e1_r1)), .val (.int (2 : Int32)), .unset]) rfl ?_
          show Steps p.tables e below (s₁.setTop (mkF m 155 #[.val (.ref r1), .val (.int (1 : Int32)), .val (.int i3), .val (.int (e1_r1 &&& (255 : Int32))), .val (.int (3 : Int32)), .val (.int (own_j3a_59_0 e1_r1)), .val (.int (own_j3a_76_0 e1_r1)), .val (.int (2 : Int32)), .unset] [])) _
          refine XS.iload X0.here hx rfl (hb hby d3_155) rfl ?_
          show Steps p.tables e below (s₁.setTop (mkF m 157 #[.val (.ref r1), .val (.int (1 : Int32)), .val (.int i3), .val (.int (e1_r1 &&& (255 : Int32))), .val (.int (3 : Int32)), .val (.int (own_j3a_59_0 e1_r1)), .val (.int (own_j3a_76_0 e1_r1)), .val (.int (2 : Int32)), .unset] [(.int (2 : Int32))])) _
          refine XS.iloadN X0.here hx rfl (hb hby d3_157) rfl ?_
          show Steps p.tables e below (s₁.setTop (mkF m 158 #[.val (.ref r1), .val (.int (1 : Int32)), .val (.int i3), .val (.int (e1_r1 &&& (255 : Int32))), .val (.int (3 : Int32)), .val (.int (own_j3a_59_0 e1_r1)), .val (.int (own_j3a_76_0 e1_r1)), .val (.int (2 : Int32)), .unset] [(.int (1 : Int32)), (.int (2 : Int32))])) _
          refine XS.iload X0.here hx rfl (hb hby d3_158) rfl ?_
          show Steps p.tables e below (s₁.setTop (mkF m 160 #[.val (.ref r1), .val (.int (1 : Int32)), .val (.int i3), .val (.int (e1_r1 &&& (255 : Int32))), .val (.int (3 : Int32)), .val (.int (own_j3a_59_0 e1_r1)), .val (.int (own_j3a_76_0 e1_r1)), .val (.int (2 : Int32)), .unset] [(.int (3 : Int32)), (.int (1 : Int32)), (.int (2 : Int32))])) _
          refine XS.iadd X0.here hx rfl (hb hby d3_160) rfl ?_
          show Steps p.tables e below (s₁.setTop (mkF m 161 #[.val (.ref r1), .val (.int (1 : Int32)), .val (.int i3), .val (.int (e1_r1 &&& (255 : Int32))), .val (.int (3 : Int32)), .val (.int (own_j3a_59_0 e1_r1)), .val (.int (own_j3a_76_0 e1_r1)), .val (.int (2 : Int32)), .unset] [(.int (4 : Int32)), (.int (2 : Int32))])) _
          refine XS.icmpNo X0.here hx rfl (hb hby d3_161) rfl (tlt (by decide : (2 : Int32) < (4 : Int32))).2.1 ?_
          show Steps p.tables e below (s₁.setTop (mkF m 164 #[.val (.ref r1), .val (.int (1 : Int32)), .val (.int i3), .val (.int (e1_r1 &&& (255 : Int32))), .val (.int (3 : Int32)), .val (.int (own_j3a_59_0 e1_r1)), .val (.int (own_j3a_76_0 e1_r1)), .val (.int (2 : Int32)), .unset] [])) _
          refine XS.iload X0.here hx rfl (hb hby d3_164) rfl ?_
          show Steps p.tables e below (s₁.setTop (mkF m 166 #[.val (.ref r1), .val (.int (1 : Int32)), .val (.int i3), .val (.int (e1_r1 &&& (255 : Int32))), .val (.int (3 : Int32)), .val (.int (own_j3a_59_0 e1_r1)), .val (.int (own_j3a_76_0 e1_r1)), .val (.int (2 : Int32)), .unset] [(.int (2 : Int32))])) _
          refine XS.iloadN X0.here hx rfl (hb hby d3_166) rfl ?_
          exact k
        have pre74 : ∀ t, Steps p.tables e below (s₁.setTop (mkF m 182 #[.val (.ref r1), .val (.int (1 : Int32)), .val (.int i3), .val (.int (e1_r1 &&& (255 : Int32))), .val (.int (3 : Int32)), .val (.int (own_j3a_59_0 e1_r1)), .val (.int (own_j3a_76_0 e1_r1)), .val (.int (2 : Int32)), .unset] [(.int (own_j3a_167_0 i3 e2_r1))])) t → Steps p.tables e below (s₁.setTop (entryFrame m #[(.ref r1), (.int (1 : Int32)), (.int i3)] 9)) t := by
          by_cases hc167_70 : (2 : Int32) < i3
          · obtain ⟨cl71, Ar71, Cq71, Sz71, Nn71, Hh71, Gg71⟩ := id V_r1
            have hin71 : ¬ ((2 : Int32) < 0 ∨ cl71.slots.size ≤ ((2 : Int32)).toNatClampNeg) := inb_of Sz71 ⟨by decide, by decide⟩
            have hat71 : cl71.slots[((2 : Int32)).toNatClampNeg]? = some (.int e2_r1) := Hh71.at hin71 rfl
            have pre72 : ∀ t, Steps p.tables e below (s₁.setTop (mkF m 182 #[.val (.ref r1), .val (.int (1 : Int32)), .val (.int i3), .val (.int (e1_r1 &&& (255 : Int32))), .val (.int (3 : Int32)), .val (.int (own_j3a_59_0 e1_r1)), .val (.int (own_j3a_76_0 e1_r1)), .val (.int (2 : Int32)), .unset] [(.int (e2_r1 &&& (255 : Int32)))])) t → Steps p.tables e below (s₁.setTop (entryFrame m #[(.ref r1), (.int (1 : Int32)), (.int i3)] 9)) t := by
              intro t k
              refine pre69 _ ?_
              show Steps p.tables e below (s₁.setTop (mkF m 167 #[.val (.ref r1), .val (.int (1 : Int32)), .val (.int i3), .val (.int (e1_r1 &&& (255 : Int32))), .val (.int (3 : Int32)), .val (.int (own_j3a_59_0 e1_r1)), .val (.int (own_j3a_76_0 e1_r1)), .val (.int (2 : Int32)), .unset] [(.int i3), (.int (2 : Int32))])) _
              refine XS.icmpNo X0.here hx rfl (hb hby d3_167) rfl (tlt hc167_70).2.1 ?_
              show Steps p.tables e below (s₁.setTop (mkF m 170 #[.val (.ref r1), .val (.int (1 : Int32)), .val (.int i3), .val (.int (e1_r1 &&& (255 : Int32))), .val (.int (3 : Int32)), .val (.int (own_j3a_59_0 e1_r1)), .val (.int (own_j3a_76_0 e1_r1)), .val (.int (2 : Int32)), .unset] [])) _
              refine XS.aloadN X0.here hx rfl (hb hby d3_170) rfl rfl ?_
              show Steps p.tables e below (s₁.setTop (mkF m 171 #[.val (.ref r1), .val (.int (1 : Int32)), .val (.int i3), .val (.int (e1_r1 &&& (255 : Int32))), .val (.int (3 : Int32)), .val (.int (own_j3a_59_0 e1_r1)), .val (.int (own_j3a_76_0 e1_r1)), .val (.int (2 : Int32)), .unset] [(.ref r1)])) _
              refine XS.iload X0.here hx rfl (hb hby d3_171) rfl ?_
              show Steps p.tables e below (s₁.setTop (mkF m 173 #[.val (.ref r1), .val (.int (1 : Int32)), .val (.int i3), .val (.int (e1_r1 &&& (255 : Int32))), .val (.int (3 : Int32)), .val (.int (own_j3a_59_0 e1_r1)), .val (.int (own_j3a_76_0 e1_r1)), .val (.int (2 : Int32)), .unset] [(.int (2 : Int32)), (.ref r1)])) _
              refine X0.baloadBytes hx (j := (2 : Int32)) (v := (.int e2_r1)) (by rw [e0]; exact Ar71.1) (State.isArrayOf_alike hZ.alike Ar71.2.1) Ar71.2.2 hin71 hat71 (g := (mkF m 173 #[.val (.ref r1), .val (.int (1 : Int32)), .val (.int i3), .val (.int (e1_r1 &&& (255 : Int32))), .val (.int (3 : Int32)), .val (.int (own_j3a_59_0 e1_r1)), .val (.int (own_j3a_76_0 e1_r1)), .val (.int (2 : Int32)), .unset] [(.int (2 : Int32)), (.ref r1)])) rfl rfl (hb hby d3_173) _ ?_
              show Steps p.tables e below (s₁.setTop (mkF m 174 #[.val (.ref r1), .val (.int (1 : Int32)), .val (.int i3), .val (.int (e1_r1 &&& (255 : Int32))), .val (.int (3 : Int32)), .val (.int (own_j3a_59_0 e1_r1)), .val (.int (own_j3a_76_0 e1_r1)), .val (.int (2 : Int32)), .unset] [(.int e2_r1)])) _
              refine XS.sipush X0.here hx rfl (hb hby d3_174) ?_
              show Steps p.tables e below (s₁.setTop (mkF m 177 #[.val (.ref r1), .val (.int (1 : Int32)), .val (.int i3), .val (.int (e1_r1 &&& (255 : Int32))), .val (.int (3 : Int32)), .val (.int (own_j3a_59_0 e1_r1)), .val (.int (own_j3a_76_0 e1_r1)), .val (.int (2 : Int32)), .unset] [(.int (255 : Int32)), (.int e2_r1)])) _
              refine XS.iand X0.here hx rfl (hb hby d3_177) rfl ?_
              show Steps p.tables e below (s₁.setTop (mkF m 178 #[.val (.ref r1), .val (.int (1 : Int32)), .val (.int i3), .val (.int (e1_r1 &&& (255 : Int32))), .val (.int (3 : Int32)), .val (.int (own_j3a_59_0 e1_r1)), .val (.int (own_j3a_76_0 e1_r1)), .val (.int (2 : Int32)), .unset] [(.int (e2_r1 &&& (255 : Int32)))])) _
              refine XS.goto X0.here hx rfl (pc0 := 178) (pc' := 182) rfl (hb hby d3_178) (by decide) (by decide) ?_
              exact k
            exact fun t k => pre72 t (by rw [show (own_j3a_167_0 i3 e2_r1) = (e2_r1 &&& (255 : Int32)) from (if_pos hc167_70)] at k; exact k)
          · have pre73 : ∀ t, Steps p.tables e below (s₁.setTop (mkF m 182 #[.val (.ref r1), .val (.int (1 : Int32)), .val (.int i3), .val (.int (e1_r1 &&& (255 : Int32))), .val (.int (3 : Int32)), .val (.int (own_j3a_59_0 e1_r1)), .val (.int (own_j3a_76_0 e1_r1)), .val (.int (2 : Int32)), .unset] [(.int (-1 : Int32))])) t → Steps p.tables e below (s₁.setTop (entryFrame m #[(.ref r1), (.int (1 : Int32)), (.int i3)] 9)) t := by
              intro t k
              refine pre69 _ ?_
              show Steps p.tables e below (s₁.setTop (mkF m 167 #[.val (.ref r1), .val (.int (1 : Int32)), .val (.int i3), .val (.int (e1_r1 &&& (255 : Int32))), .val (.int (3 : Int32)), .val (.int (own_j3a_59_0 e1_r1)), .val (.int (own_j3a_76_0 e1_r1)), .val (.int (2 : Int32)), .unset] [(.int i3), (.int (2 : Int32))])) _
              refine XS.icmpYes X0.here hx rfl (pc0 := 167) (pc' := 181) rfl (hb hby d3_167) rfl (flt hc167_70).2.1 (by decide) (by decide) ?_
              show Steps p.tables e below (s₁.setTop (mkF m 181 #[.val (.ref r1), .val (.int (1 : Int32)), .val (.int i3), .val (.int (e1_r1 &&& (255 : Int32))), .val (.int (3 : Int32)), .val (.int (own_j3a_59_0 e1_r1)), .val (.int (own_j3a_76_0 e1_r1)), .val (.int (2 : Int32)), .unset] [])) _
              refine XS.iconst X0.here hx rfl (hb hby d3_181) ?_
              exact k
            exact fun t k => pre73 t (by rw [show (own_j3a_167_0 i3 e2_r1) = (-1 : Int32) from (if_neg hc167_70)] at k; exact k)
        have pre75 : ∀ t, Steps p.tables e below (s₁.setTop (mkF m 188 #[.val (.ref r1), .val (.int (1 : Int32)), .val (.int i3), .val (.int (e1_r1 &&& (255 : Int32))), .val (.int (3 : Int32)), .val (.int (own_j3a_59_0 e1_r1)), .val (.int (own_j3a_76_0 e1_r1)), .val (.int (2 : Int32)), .val (.int (own_j3a_167_0 i3 e2_r1))] [(.int (own_j3a_59_0 e1_r1)), (.int (own_j3a_167_0 i3 e2_r1))])) t → Steps p.tables e below (s₁.setTop (entryFrame m #[(.ref r1), (.int (1 : Int32)), (.int i3)] 9)) t := by
          intro t k
          refine pre74 _ ?_
          show Steps p.tables e below (s₁.setTop (mkF m 182 #[.val (.ref r1), .val (.int (1 : Int32)), .val (.int i3), .val (.int (e1_r1 &&& (255 : Int32))), .val (.int (3 : Int32)), .val (.int (own_j3a_59_0 e1_r1)), .val (.int (own_j3a_76_0 e1_r1)), .val (.int (2 : Int32)), .unset] [(.int (own_j3a_167_0 i3 e2_r1))])) _
          refine XS.istore X0.here hx rfl (hb hby d3_182) rfl (l' := #[.val (.ref r1), .val (.int (1 : Int32)), .val (.int i3), .val (.int (e1_r1 &&& (255 : Int32))), .val (.int (3 : Int32)), .val (.int (own_j3a_59_0 e1_r1)), .val (.int (own_j3a_76_0 e1_r1)), .val (.int (2 : Int32)), .val (.int (own_j3a_167_0 i3 e2_r1))]) rfl ?_
          show Steps p.tables e below (s₁.setTop (mkF m 184 #[.val (.ref r1), .val (.int (1 : Int32)), .val (.int i3), .val (.int (e1_r1 &&& (255 : Int32))), .val (.int (3 : Int32)), .val (.int (own_j3a_59_0 e1_r1)), .val (.int (own_j3a_76_0 e1_r1)), .val (.int (2 : Int32)), .val (.int (own_j3a_167_0 i3 e2_r1))] [])) _
          refine XS.iload X0.here hx rfl (hb hby d3_184) rfl ?_
          show Steps p.tables e below (s₁.setTop (mkF m 186 #[.val (.ref r1), .val (.int (1 : Int32)), .val (.int i3), .val (.int (e1_r1 &&& (255 : Int32))), .val (.int (3 : Int32)), .val (.int (own_j3a_59_0 e1_r1)), .val (.int (own_j3a_76_0 e1_r1)), .val (.int (2 : Int32)), .val (.int (own_j3a_167_0 i3 e2_r1))] [(.int (own_j3a_167_0 i3 e2_r1))])) _
          refine XS.iload X0.here hx rfl (hb hby d3_186) rfl ?_
          exact k
        by_cases hc188_76 : (own_j3a_167_0 i3 e2_r1) < (own_j3a_59_0 e1_r1)
        · have pre77 : ∀ t, Steps p.tables e below (s₁.setTop (mkF m 202 #[.val (.ref r1), .val (.int (1 : Int32)), .val (.int i3), .val (.int (e1_r1 &&& (255 : Int32))), .val (.int (3 : Int32)), .val (.int (own_j3a_59_0 e1_r1)), .val (.int (own_j3a_76_0 e1_r1)), .val (.int (2 : Int32)), .val (.int (own_j3a_167_0 i3 e2_r1))] [(.int (-3 : Int32))])) t → Steps p.tables e below (s₁.setTop (entryFrame m #[(.ref r1), (.int (1 : Int32)), (.int i3)] 9)) t := by
            intro t k
            refine pre75 _ ?_
            show Steps p.tables e below (s₁.setTop (mkF m 188 #[.val (.ref r1), .val (.int (1 : Int32)), .val (.int i3), .val (.int (e1_r1 &&& (255 : Int32))), .val (.int (3 : Int32)), .val (.int (own_j3a_59_0 e1_r1)), .val (.int (own_j3a_76_0 e1_r1)), .val (.int (2 : Int32)), .val (.int (own_j3a_167_0 i3 e2_r1))] [(.int (own_j3a_59_0 e1_r1)), (.int (own_j3a_167_0 i3 e2_r1))])) _
            refine XS.icmpYes X0.here hx rfl (pc0 := 188) (pc' := 198) rfl (hb hby d3_188) rfl (tlt hc188_76).1 (by decide) (by decide) ?_
            show Steps p.tables e below (s₁.setTop (mkF m 198 #[.val (.ref r1), .val (.int (1 : Int32)), .val (.int i3), .val (.int (e1_r1 &&& (255 : Int32))), .val (.int (3 : Int32)), .val (.int (own_j3a_59_0 e1_r1)), .val (.int (own_j3a_76_0 e1_r1)), .val (.int (2 : Int32)), .val (.int (own_j3a_167_0 i3 e2_r1))] [])) _
            refine XS.iload X0.here hx rfl (hb hby d3_198) rfl ?_
            show Steps p.tables e below (s₁.setTop (mkF m 200 #[.val (.ref r1), .val (.int (1 : Int32)), .val (.int i3), .val (.int (e1_r1 &&& (255 : Int32))), .val (.int (3 : Int32)), .val (.int (own_j3a_59_0 e1_r1)), .val (.int (own_j3a_76_0 e1_r1)), .val (.int (2 : Int32)), .val (.int (own_j3a_167_0 i3 e2_r1))] [(.int (2 : Int32))])) _
            refine XS.iconst X0.here hx rfl (hb hby d3_200) ?_
            show Steps p.tables e below (s₁.setTop (mkF m 201 #[.val (.ref r1), .val (.int (1 : Int32)), .val (.int i3), .val (.int (e1_r1 &&& (255 : Int32))), .val (.int (3 : Int32)), .val (.int (own_j3a_59_0 e1_r1)), .val (.int (own_j3a_76_0 e1_r1)), .val (.int (2 : Int32)), .val (.int (own_j3a_167_0 i3 e2_r1))] [(.int (-1 : Int32)), (.int (2 : Int32))])) _
            refine XS.ixor X0.here hx rfl (hb hby d3_201) rfl ?_
            exact k
          obtain ⟨fs, hr, hrun, hended, hW, hsame⟩ := X0.leave (v := some (.int (-3 : Int32))) (fun h => by rw [Bd.returns] at h; cases h)
          refine ⟨_, _, pre77 _ ?_, hrun, hended, _, _, rfl, ?_, ⟨_, rfl⟩, hW, hsame.mono (by decide) (by decide)⟩
          · show Steps p.tables e below (s₁.setTop (mkF m 202 #[.val (.ref r1), .val (.int (1 : Int32)), .val (.int i3), .val (.int (e1_r1 &&& (255 : Int32))), .val (.int (3 : Int32)), .val (.int (own_j3a_59_0 e1_r1)), .val (.int (own_j3a_76_0 e1_r1)), .val (.int (2 : Int32)), .val (.int (own_j3a_167_0 i3 e2_r1))] [(.int (-3 : Int32))])) _
            exact retI X0 hx Bd.returns (hb hby d3_202) hr
          · show Q3a Z r1 i3 e0_r1 e1_r1 e2_r1 e3_r1 e4_r1 e5_r1 k_r1 h0 n0 _ s₁.heap _
            rw [e0]
            exact ⟨congrArg (fun z => some (Value.int z)) (show (own_r3a i3 e1_r1 e2_r1 e3_r1 e4_r1) = (-3 : Int32) from ((if_neg hc22_3).trans ((if_pos hc29_6).trans ((if_neg hc49_8).trans (if_pos hc188_76))))).symm, N0, rfl⟩
        · have pre78 : ∀ t, Steps p.tables e below (s₁.setTop (mkF m 195 #[.val (.ref r1), .val (.int (1 : Int32)), .val (.int i3), .val (.int (e1_r1 &&& (255 : Int32))), .val (.int (3 : Int32)), .val (.int (own_j3a_59_0 e1_r1)), .val (.int (own_j3a_76_0 e1_r1)), .val (.int (2 : Int32)), .val (.int (own_j3a_167_0 i3 e2_r1))] [(.int (own_j3a_76_0 e1_r1)), (.int (own_j3a_167_0 i3 e2_r1))])) t → Steps p.tables e below (s₁.setTop (entryFrame m #[(.ref r1), (.int (1 : Int32)), (.int i3)] 9)) t := by
            intro t k
            refine pre75 _ ?_
            show Steps p.tables e below (s₁.setTop (mkF m 188 #[.val (.ref r1), .val (.int (1 : Int32)), .val (.int i3), .val (.int (e1_r1 &&& (255 : Int32))), .val (.int (3 : Int32)), .val (.int (own_j3a_59_0 e1_r1)), .val (.int (own_j3a_76_0 e1_r1)), .val (.int (2 : Int32)), .val (.int (own_j3a_167_0 i3 e2_r1))] [(.int (own_j3a_59_0 e1_r1)), (.int (own_j3a_167_0 i3 e2_r1))])) _
            refine XS.icmpNo X0.here hx rfl (hb hby d3_188) rfl (flt hc188_76).1 ?_
            show Steps p.tables e below (s₁.setTop (mkF m 191 #[.val (.ref r1), .val (.int (1 : Int32)), .val (.int i3), .val (.int (e1_r1 &&& (255 : Int32))), .val (.int (3 : Int32)), .val (.int (own_j3a_59_0 e1_r1)), .val (.int (own_j3a_76_0 e1_r1)), .val (.int (2 : Int32)), .val (.int (own_j3a_167_0 i3 e2_r1))] [])) _
            refine XS.iload X0.here hx rfl (hb hby d3_191) rfl ?_
            show Steps p.tables e below (s₁.setTop (mkF m 193 #[.val (.ref r1), .val (.int (1 : Int32)), .val (.int i3), .val (.int (e1_r1 &&& (255 : Int32))), .val (.int (3 : Int32)), .val (.int (own_j3a_59_0 e1_r1)), .val (.int (own_j3a_76_0 e1_r1)), .val (.int (2 : Int32)), .val (.int (own_j3a_167_0 i3 e2_r1))] [(.int (own_j3a_167_0 i3 e2_r1))])) _
            refine XS.iload X0.here hx rfl (hb hby d3_193) rfl ?_
            exact k
          by_cases hc195_79 : (own_j3a_76_0 e1_r1) < (own_j3a_167_0 i3 e2_r1)
          · have pre80 : ∀ t, Steps p.tables e below (s₁.setTop (mkF m 202 #[.val (.ref r1), .val (.int (1 : Int32)), .val (.int i3), .val (.int (e1_r1 &&& (255 : Int32))), .val (.int (3 : Int32)), .val (.int (own_j3a_59_0 e1_r1)), .val (.int (own_j3a_76_0 e1_r1)), .val (.int (2 : Int32)), .val (.int (own_j3a_167_0 i3 e2_r1))] [(.int (-3 : Int32))])) t → Steps p.tables e below (s₁.setTop (entryFrame m #[(.ref r1), (.int (1 : Int32)), (.int i3)] 9)) t := by
              intro t k
              refine pre78 _ ?_
              show Steps p.tables e below (s₁.setTop (mkF m 195 #[.val (.ref r1), .val (.int (1 : Int32)), .val (.int i3), .val (.int (e1_r1 &&& (255 : Int32))), .val (.int (3 : Int32)), .val (.int (own_j3a_59_0 e1_r1)), .val (.int (own_j3a_76_0 e1_r1)), .val (.int (2 : Int32)), .val (.int (own_j3a_167_0 i3 e2_r1))] [(.int (own_j3a_76_0 e1_r1)), (.int (own_j3a_167_0 i3 e2_r1))])) _
              refine XS.icmpNo X0.here hx rfl (hb hby d3_195) rfl (tlt hc195_79).2.2.2 ?_
              show Steps p.tables e below (s₁.setTop (mkF m 198 #[.val (.ref r1), .val (.int (1 : Int32)), .val (.int i3), .val (.int (e1_r1 &&& (255 : Int32))), .val (.int (3 : Int32)), .val (.int (own_j3a_59_0 e1_r1)), .val (.int (own_j3a_76_0 e1_r1)), .val (.int (2 : Int32)), .val (.int (own_j3a_167_0 i3 e2_r1))] [])) _
              refine XS.iload X0.here hx rfl (hb hby d3_198) rfl ?_
              show Steps p.tables e below (s₁.setTop (mkF m 200 #[.val (.ref r1), .val (.int (1 : Int32)), .val (.int i3), .val (.int (e1_r1 &&& (255 : Int32))), .val (.int (3 : Int32)), .val (.int (own_j3a_59_0 e1_r1)), .val (.int (own_j3a_76_0 e1_r1)), .val (.int (2 : Int32)), .val (.int (own_j3a_167_0 i3 e2_r1))] [(.int (2 : Int32))])) _
              refine XS.iconst X0.here hx rfl (hb hby d3_200) ?_
              show Steps p.tables e below (s₁.setTop (mkF m 201 #[.val (.ref r1), .val (.int (1 : Int32)), .val (.int i3), .val (.int (e1_r1 &&& (255 : Int32))), .val (.int (3 : Int32)), .val (.int (own_j3a_59_0 e1_r1)), .val (.int (own_j3a_76_0 e1_r1)), .val (.int (2 : Int32)), .val (.int (own_j3a_167_0 i3 e2_r1))] [(.int (-1 : Int32)), (.int (2 : Int32))])) _
              refine XS.ixor X0.here hx rfl (hb hby d3_201) rfl ?_
              exact k
            obtain ⟨fs, hr, hrun, hended, hW, hsame⟩ := X0.leave (v := some (.int (-3 : Int32))) (fun h => by rw [Bd.returns] at h; cases h)
            refine ⟨_, _, pre80 _ ?_, hrun, hended, _, _, rfl, ?_, ⟨_, rfl⟩, hW, hsame.mono (by decide) (by decide)⟩
            · show Steps p.tables e below (s₁.setTop (mkF m 202 #[.val (.ref r1), .val (.int (1 : Int32)), .val (.int i3), .val (.int (e1_r1 &&& (255 : Int32))), .val (.int (3 : Int32)), .val (.int (own_j3a_59_0 e1_r1)), .val (.int (own_j3a_76_0 e1_r1)), .val (.int (2 : Int32)), .val (.int (own_j3a_167_0 i3 e2_r1))] [(.int (-3 : Int32))])) _
              exact retI X0 hx Bd.returns (hb hby d3_202) hr
            · show Q3a Z r1 i3 e0_r1 e1_r1 e2_r1 e3_r1 e4_r1 e5_r1 k_r1 h0 n0 _ s₁.heap _
              rw [e0]
              exact ⟨congrArg (fun z => some (Value.int z)) (show (own_r3a i3 e1_r1 e2_r1 e3_r1 e4_r1) = (-3 : Int32) from ((if_neg hc22_3).trans ((if_pos hc29_6).trans ((if_neg hc49_8).trans ((if_neg hc188_76).trans (if_pos hc195_79)))))).symm, N0, rfl⟩
          · have pre81 : ∀ t, Steps p.tables e below (s₁.setTop (mkF m 167 #[.val (.ref r1), .val (.int (1 : Int32)), .val (.int i3), .val (.int (e1_r1 &&& (255 : Int32))), .val (.int (3 : Int32)), .val (.int (128 : Int32)), .val (.int (191 : Int32)), .val (.int (3 : Int32)), .val (.int (own_j3a_167_0 i3 e2_r1))] [(.int i3), (.int (3 : Int32))])) t → Steps p.tables e below (s₁.setTop (entryFrame m #[(.ref r1), (.int (1 : Int32)), (.int i3)] 9)) t := by
              intro t k
              refine pre78 _ ?_
              show Steps p.tables e below (s₁.setTop (mkF m 195 #[.val (.ref r1), .val (.int (1 : Int32)), .val (.int i3), .val (.int (e1_r1 &&& (255 : Int32))), .val (.int (3 : Int32)), .val (.int (own_j3a_59_0 e1_r1)), .val (.int (own_j3a_76_0 e1_r1)), .val (.int (2 : Int32)), .val (.int (own_j3a_167_0 i3 e2_r1))] [(.int (own_j3a_76_0 e1_r1)), (.int (own_j3a_167_0 i3 e2_r1))])) _
              refine XS.icmpYes X0.here hx rfl (pc0 := 195) (pc' := 203) rfl (hb hby d3_195) rfl (flt hc195_79).2.2.2 (by decide) (by decide) ?_
              show Steps p.tables e below (s₁.setTop (mkF m 203 #[.val (.ref r1), .val (.int (1 : Int32)), .val (.int i3), .val (.int (e1_r1 &&& (255 : Int32))), .val (.int (3 : Int32)), .val (.int (own_j3a_59_0 e1_r1)), .val (.int (own_j3a_76_0 e1_r1)), .val (.int (2 : Int32)), .val (.int (own_j3a_167_0 i3 e2_r1))] [])) _
              refine XS.sipush X0.here hx rfl (hb hby d3_203) ?_
              show Steps p.tables e below (s₁.setTop (mkF m 206 #[.val (.ref r1), .val (.int (1 : Int32)), .val (.int i3), .val (.int (e1_r1 &&& (255 : Int32))), .val (.int (3 : Int32)), .val (.int (own_j3a_59_0 e1_r1)), .val (.int (own_j3a_76_0 e1_r1)), .val (.int (2 : Int32)), .val (.int (own_j3a_167_0 i3 e2_r1))] [(.int (128 : Int32))])) _
              refine XS.istore X0.here hx rfl (hb hby d3_206) rfl (l' := #[.val (.ref r1), .val (.int (1 : Int32)), .val (.int i3), .val (.int (e1_r1 &&& (255 : Int32))), .val (.int (3 : Int32)), .val (.int (128 : Int32)), .val (.int (own_j3a_76_0 e1_r1)), .val (.int (2 : Int32)), .val (.int (own_j3a_167_0 i3 e2_r1))]) rfl ?_
              show Steps p.tables e below (s₁.setTop (mkF m 208 #[.val (.ref r1), .val (.int (1 : Int32)), .val (.int i3), .val (.int (e1_r1 &&& (255 : Int32))), .val (.int (3 : Int32)), .val (.int (128 : Int32)), .val (.int (own_j3a_76_0 e1_r1)), .val (.int (2 : Int32)), .val (.int (own_j3a_167_0 i3 e2_r1))] [])) _
              refine XS.sipush X0.here hx rfl (hb hby d3_208) ?_
              show Steps p.tables e below (s₁.setTop (mkF m 211 #[.val (.ref r1), .val (.int (1 : Int32)), .val (.int i3), .val (.int (e1_r1 &&& (255 : Int32))), .val (.int (3 : Int32)), .val (.int (128 : Int32)), .val (.int (own_j3a_76_0 e1_r1)), .val (.int (2 : Int32)), .val (.int (own_j3a_167_0 i3 e2_r1))] [(.int (191 : Int32))])) _
              refine XS.istore X0.here hx rfl (hb hby d3_211) rfl (l' := #[.val (.ref r1), .val (.int (1 : Int32)), .val (.int i3), .val (.int (e1_r1 &&& (255 : Int32))), .val (.int (3 : Int32)), .val (.int (128 : Int32)), .val (.int (191 : Int32)), .val (.int (2 : Int32)), .val (.int (own_j3a_167_0 i3 e2_r1))]) rfl ?_
              show Steps p.tables e below (s₁.setTop (mkF m 213 #[.val (.ref r1), .val (.int (1 : Int32)), .val (.int i3), .val (.int (e1_r1 &&& (255 : Int32))), .val (.int (3 : Int32)), .val (.int (128 : Int32)), .val (.int (191 : Int32)), .val (.int (2 : Int32)), .val (.int (own_j3a_167_0 i3 e2_r1))] [])) _
              refine XS.iinc X0.here hx rfl (hb hby d3_213) rfl (l' := #[.val (.ref r1), .val (.int (1 : Int32)), .val (.int i3), .val (.int (e1_r1 &&& (255 : Int32))), .val (.int (3 : Int32)), .val (.int (128 : Int32)), .val (.int (191 : Int32)), .val (.int (3 : Int32)), .val (.int (own_j3a_167_0 i3 e2_r1))]) rfl ?_
              show Steps p.tables e below (s₁.setTop (mkF m 216 #[.val (.ref r1), .val (.int (1 : Int32)), .val (.int i3), .val (.int (e1_r1 &&& (255 : Int32))), .val (.int (3 : Int32)), .val (.int (128 : Int32)), .val (.int (191 : Int32)), .val (.int (3 : Int32)), .val (.int (own_j3a_167_0 i3 e2_r1))] [])) _
              refine XS.goto X0.here hx rfl (pc0 := 216) (pc' := 155) rfl (hb hby d3_216) (by decide) (by decide) ?_
              show Steps p.tables e below (s₁.setTop (mkF m 155 #[.val (.ref r1), .val (.int (1 : Int32)), .val (.int i3), .val (.int (e1_r1 &&& (255 : Int32))), .val (.int (3 : Int32)), .val (.int (128 : Int32)), .val (.int (191 : Int32)), .val (.int (3 : Int32)), .val (.int (own_j3a_167_0 i3 e2_r1))] [])) _
              refine XS.iload X0.here hx rfl (hb hby d3_155) rfl ?_
              show Steps p.tables e below (s₁.setTop (mkF m 157 #[.val (.ref r1), .val (.int (1 : Int32)), .val (.int i3), .val (.int (e1_r1 &&& (255 : Int32))), .val (.int (3 : Int32)), .val (.int (128 : Int32)), .val (.int (191 : Int32)), .val (.int (3 : Int32)), .val (.int (own_j3a_167_0 i3 e2_r1))] [(.int (3 : Int32))])) _
              refine XS.iloadN X0.here hx rfl (hb hby d3_157) rfl ?_
              show Steps p.tables e below (s₁.setTop (mkF m 158 #[.val (.ref r1), .val (.int (1 : Int32)), .val (.int i3), .val (.int (e1_r1 &&& (255 : Int32))), .val (.int (3 : Int32)), .val (.int (128 : Int32)), .val (.int (191 : Int32)), .val (.int (3 : Int32)), .val (.int (own_j3a_167_0 i3 e2_r1))] [(.int (1 : Int32)), (.int (3 : Int32))])) _
              refine XS.iload X0.here hx rfl (hb hby d3_158) rfl ?_
              show Steps p.tables e below (s₁.setTop (mkF m 160 #[.val (.ref r1), .val (.int (1 : Int32)), .val (.int i3), .val (.int (e1_r1 &&& (255 : Int32))), .val (.int (3 : Int32)), .val (.int (128 : Int32)), .val (.int (191 : Int32)), .val (.int (3 : Int32)), .val (.int (own_j3a_167_0 i3 e2_r1))] [(.int (3 : Int32)), (.int (1 : Int32)), (.int (3 : Int32))])) _
              refine XS.iadd X0.here hx rfl (hb hby d3_160) rfl ?_
              show Steps p.tables e below (s₁.setTop (mkF m 161 #[.val (.ref r1), .val (.int (1 : Int32)), .val (.int i3), .val (.int (e1_r1 &&& (255 : Int32))), .val (.int (3 : Int32)), .val (.int (128 : Int32)), .val (.int (191 : Int32)), .val (.int (3 : Int32)), .val (.int (own_j3a_167_0 i3 e2_r1))] [(.int (4 : Int32)), (.int (3 : Int32))])) _
              refine XS.icmpNo X0.here hx rfl (hb hby d3_161) rfl (tlt (by decide : (3 : Int32) < (4 : Int32))).2.1 ?_
              show Steps p.tables e below (s₁.setTop (mkF m 164 #[.val (.ref r1), .val (.int (1 : Int32)), .val (.int i3), .val (.int (e1_r1 &&& (255 : Int32))), .val (.int (3 : Int32)), .val (.int (128 : Int32)), .val (.int (191 : Int32)), .val (.int (3 : Int32)), .val (.int (own_j3a_167_0 i3 e2_r1))] [])) _
              refine XS.iload X0.here hx rfl (hb hby d3_164) rfl ?_
              show Steps p.tables e below (s₁.setTop (mkF m 166 #[.val (.ref r1), .val (.int (1 : Int32)), .val (.int i3), .val (.int (e1_r1 &&& (255 : Int32))), .val (.int (3 : Int32)), .val (.int (128 : Int32)), .val (.int (191 : Int32)), .val (.int (3 : Int32)), .val (.int (own_j3a_167_0 i3 e2_r1))] [(.int (3 : Int32))])) _
              refine XS.iloadN X0.here hx rfl (hb hby d3_166) rfl ?_
              exact k
            have pre86 : ∀ t, Steps p.tables e below (s₁.setTop (mkF m 182 #[.val (.ref r1), .val (.int (1 : Int32)), .val (.int i3), .val (.int (e1_r1 &&& (255 : Int32))), .val (.int (3 : Int32)), .val (.int (128 : Int32)), .val (.int (191 : Int32)), .val (.int (3 : Int32)), .val (.int (own_j3a_167_0 i3 e2_r1))] [(.int (own_j3a_167_0_v1 i3 e3_r1))])) t → Steps p.tables e below (s₁.setTop (entryFrame m #[(.ref r1), (.int (1 : Int32)), (.int i3)] 9)) t := by
              by_cases hc167_82 : (3 : Int32) < i3
              · obtain ⟨cl83, Ar83, Cq83, Sz83, Nn83, Hh83, Gg83⟩ := id V_r1
                have hin83 : ¬ ((3 : Int32) < 0 ∨ cl83.slots.size ≤ ((3 : Int32)).toNatClampNeg) := inb_of Sz83 ⟨by decide, by decide⟩
                have hat83 : cl83.slots[((3 : Int32)).toNatClampNeg]? = some (.int e3_r1) := Hh83.at hin83 rfl
                have pre84 : ∀ t, Steps p.tables e below (s₁.setTop (mkF m 182 #[.val (.ref r1), .val (.int (1 : Int32)), .val (.int i3), .val (.int (e1_r1 &&& (255 : Int32))), .val (.int (3 : Int32)), .val (.int (128 : Int32)), .val (.int (191 : Int32)), .val (.int (3 : Int32)), .val (.int (own_j3a_167_0 i3 e2_r1))] [(.int (e3_r1 &&& (255 : Int32)))])) t → Steps p.tables e below (s₁.setTop (entryFrame m #[(.ref r1), (.int (1 : Int32)), (.int i3)] 9)) t := by
                  intro t k
                  refine pre81 _ ?_
                  show Steps p.tables e below (s₁.setTop (mkF m 167 #[.val (.ref r1), .val (.int (1 : Int32)), .val (.int i3), .val (.int (e1_r1 &&& (255 : Int32))), .val (.int (3 : Int32)), .val (.int (128 : Int32)), .val (.int (191 : Int32)), .val (.int (3 : Int32)), .val (.int (own_j3a_167_0 i3 e2_r1))] [(.int i3), (.int (3 : Int32))])) _
                  refine XS.icmpNo X0.here hx rfl (hb hby d3_167) rfl (tlt hc167_82).2.1 ?_
                  show Steps p.tables e below (s₁.setTop (mkF m 170 #[.val (.ref r1), .val (.int (1 : Int32)), .val (.int i3), .val (.int (e1_r1 &&& (255 : Int32))), .val (.int (3 : Int32)), .val (.int (128 : Int32)), .val (.int (191 : Int32)), .val (.int (3 : Int32)), .val (.int (own_j3a_167_0 i3 e2_r1))] [])) _
                  refine XS.aloadN X0.here hx rfl (hb hby d3_170) rfl rfl ?_
                  show Steps p.tables e below (s₁.setTop (mkF m 171 #[.val (.ref r1), .val (.int (1 : Int32)), .val (.int i3), .val (.int (e1_r1 &&& (255 : Int32))), .val (.int (3 : Int32)), .val (.int (128 : Int32)), .val (.int (191 : Int32)), .val (.int (3 : Int32)), .val (.int (own_j3a_167_0 i3 e2_r1))] [(.ref r1)])) _
                  refine XS.iload X0.here hx rfl (hb hby d3_171) rfl ?_
                  show Steps p.tables e below (s₁.setTop (mkF m 173 #[.val (.ref r1), .val (.int (1 : Int32)), .val (.int i3), .val (.int (e1_r1 &&& (255 : Int32))), .val (.int (3 : Int32)), .val (.int (128 : Int32)), .val (.int (191 : Int32)), .val (.int (3 : Int32)), .val (.int (own_j3a_167_0 i3 e2_r1))] [(.int (3 : Int32)), (.ref r1)])) _
                  refine X0.baloadBytes hx (j := (3 : Int32)) (v := (.int e3_r1)) (by rw [e0]; exact Ar83.1) (State.isArrayOf_alike hZ.alike Ar83.2.1) Ar83.2.2 hin83 hat83 (g := (mkF m 173 #[.val (.ref r1), .val (.int (1 : Int32)), .val (.int i3), .val (.int (e1_r1 &&& (255 : Int32))), .val (.int (3 : Int32)), .val (.int (128 : Int32)), .val (.int (191 : Int32)), .val (.int (3 : Int32)), .val (.int (own_j3a_167_0 i3 e2_r1))] [(.int (3 : Int32)), (.ref r1)])) rfl rfl (hb hby d3_173) _ ?_
                  show Steps p.tables e below (s₁.setTop (mkF m 174 #[.val (.ref r1), .val (.int (1 : Int32)), .val (.int i3), .val (.int (e1_r1 &&& (255 : Int32))), .val (.int (3 : Int32)), .val (.int (128 : Int32)), .val (.int (191 : Int32)), .val (.int (3 : Int32)), .val (.int (own_j3a_167_0 i3 e2_r1))] [(.int e3_r1)])) _
                  refine XS.sipush X0.here hx rfl (hb hby d3_174) ?_
                  show Steps p.tables e below (s₁.setTop (mkF m 177 #[.val (.ref r1), .val (.int (1 : Int32)), .val (.int i3), .val (.int (e1_r1 &&& (255 : Int32))), .val (.int (3 : Int32)), .val (.int (128 : Int32)), .val (.int (191 : Int32)), .val (.int (3 : Int32)), .val (.int (own_j3a_167_0 i3 e2_r1))] [(.int (255 : Int32)), (.int e3_r1)])) _
                  refine XS.iand X0.here hx rfl (hb hby d3_177) rfl ?_
                  show Steps p.tables e below (s₁.setTop (mkF m 178 #[.val (.ref r1), .val (.int (1 : Int32)), .val (.int i3), .val (.int (e1_r1 &&& (255 : Int32))), .val (.int (3 : Int32)), .val (.int (128 : Int32)), .val (.int (191 : Int32)), .val (.int (3 : Int32)), .val (.int (own_j3a_167_0 i3 e2_r1))] [(.int (e3_r1 &&& (255 : Int32)))])) _
                  refine XS.goto X0.here hx rfl (pc0 := 178) (pc' := 182) rfl (hb hby d3_178) (by decide) (by decide) ?_
                  exact k
                exact fun t k => pre84 t (by rw [show (own_j3a_167_0_v1 i3 e3_r1) = (e3_r1 &&& (255 : Int32)) from (if_pos hc167_82)] at k; exact k)
              · have pre85 : ∀ t, Steps p.tables e below (s₁.setTop (mkF m 182 #[.val (.ref r1), .val (.int (1 : Int32)), .val (.int i3), .val (.int (e1_r1 &&& (255 : Int32))), .val (.int (3 : Int32)), .val (.int (128 : Int32)), .val (.int (191 : Int32)), .val (.int (3 : Int32)), .val (.int (own_j3a_167_0 i3 e2_r1))] [(.int (-1 : Int32))])) t → Steps p.tables e below (s₁.setTop (entryFrame m #[(.ref r1), (.int (1 : Int32)), (.int i3)] 9)) t := by
                  intro t k
                  refine pre81 _ ?_
                  show Steps p.tables e below (s₁.setTop (mkF m 167 #[.val (.ref r1), .val (.int (1 : Int32)), .val (.int i3), .val (.int (e1_r1 &&& (255 : Int32))), .val (.int (3 : Int32)), .val (.int (128 : Int32)), .val (.int (191 : Int32)), .val (.int (3 : Int32)), .val (.int (own_j3a_167_0 i3 e2_r1))] [(.int i3), (.int (3 : Int32))])) _
                  refine XS.icmpYes X0.here hx rfl (pc0 := 167) (pc' := 181) rfl (hb hby d3_167) rfl (flt hc167_82).2.1 (by decide) (by decide) ?_
                  show Steps p.tables e below (s₁.setTop (mkF m 181 #[.val (.ref r1), .val (.int (1 : Int32)), .val (.int i3), .val (.int (e1_r1 &&& (255 : Int32))), .val (.int (3 : Int32)), .val (.int (128 : Int32)), .val (.int (191 : Int32)), .val (.int (3 : Int32)), .val (.int (own_j3a_167_0 i3 e2_r1))] [])) _
                  refine XS.iconst X0.here hx rfl (hb hby d3_181) ?_
                  exact k
                exact fun t k => pre85 t (by rw [show (own_j3a_167_0_v1 i3 e3_r1) = (-1 : Int32) from (if_neg hc167_82)] at k; exact k)
            have pre87 : ∀ t, Steps p.tables e below (s₁.setTop (mkF m 188 #[.val (.ref r1), .val (.int (1 : Int32)), .val (.int i3), .val (.int (e1_r1 &&& (255 : Int32))), .val (.int (3 : Int32)), .val (.int (128 : Int32)), .val (.int (191 : Int32)), .val (.int (3 : Int32)), .val (.int (own_j3a_167_0_v1 i3 e3_r1))] [(.int (128 : Int32)), (.int (own_j3a_167_0_v1 i3 e3_r1))])) t → Steps p.tables e below (s₁.setTop (entryFrame m #[(.ref r1), (.int (1 : Int32)), (.int i3)] 9)) t := by
              intro t k
              refine pre86 _ ?_
              show Steps p.tables e below (s₁.setTop (mkF m 182 #[.val (.ref r1), .val (.int (1 : Int32)), .val (.int i3), .val (.int (e1_r1 &&& (255 : Int32))), .val (.int (3 : Int32)), .val (.int (128 : Int32)), .val (.int (191 : Int32)), .val (.int (3 : Int32)), .val (.int (own_j3a_167_0 i3 e2_r1))] [(.int (own_j3a_167_0_v1 i3 e3_r1))])) _
              refine XS.istore X0.here hx rfl (hb hby d3_182) rfl (l' := #[.val (.ref r1), .val (.int (1 : Int32)), .val (.int i3), .val (.int (e1_r1 &&& (255 : Int32))), .val (.int (3 : Int32)), .val (.int (128 : Int32)), .val (.int (191 : Int32)), .val (.int (3 : Int32)), .val (.int (own_j3a_167_0_v1 i3 e3_r1))]) rfl ?_
              show Steps p.tables e below (s₁.setTop (mkF m 184 #[.val (.ref r1), .val (.int (1 : Int32)), .val (.int i3), .val (.int (e1_r1 &&& (255 : Int32))), .val (.int (3 : Int32)), .val (.int (128 : Int32)), .val (.int (191 : Int32)), .val (.int (3 : Int32)), .val (.int (own_j3a_167_0_v1 i3 e3_r1))] [])) _
              refine XS.iload X0.here hx rfl (hb hby d3_184) rfl ?_
              show Steps p.tables e below (s₁.setTop (mkF m 186 #[.val (.ref r1), .val (.int (1 : Int32)), .val (.int i3), .val (.int (e1_r1 &&& (255 : Int32))), .val (.int (3 : Int32)), .val (.int (128 : Int32)), .val (.int (191 : Int32)), .val (.int (3 : Int32)), .val (.int (own_j3a_167_0_v1 i3 e3_r1))] [(.int (own_j3a_167_0_v1 i3 e3_r1))])) _
              refine XS.iload X0.here hx rfl (hb hby d3_186) rfl ?_
              exact k
            by_cases hc188_88 : (own_j3a_167_0_v1 i3 e3_r1) < (128 : Int32)
            · have pre89 : ∀ t, Steps p.tables e below (s₁.setTop (mkF m 202 #[.val (.ref r1), .val (.int (1 : Int32)), .val (.int i3), .val (.int (e1_r1 &&& (255 : Int32))), .val (.int (3 : Int32)), .val (.int (128 : Int32)), .val (.int (191 : Int32)), .val (.int (3 : Int32)), .val (.int (own_j3a_167_0_v1 i3 e3_r1))] [(.int (-4 : Int32))])) t → Steps p.tables e below (s₁.setTop (entryFrame m #[(.ref r1), (.int (1 : Int32)), (.int i3)] 9)) t := by
                intro t k
                refine pre87 _ ?_
                show Steps p.tables e below (s₁.setTop (mkF m 188 #[.val (.ref r1), .val (.int (1 : Int32)), .val (.int i3), .val (.int (e1_r1 &&& (255 : Int32))), .val (.int (3 : Int32)), .val (.int (128 : Int32)), .val (.int (191 : Int32)), .val (.int (3 : Int32)), .val (.int (own_j3a_167_0_v1 i3 e3_r1))] [(.int (128 : Int32)), (.int (own_j3a_167_0_v1 i3 e3_r1))])) _
                refine XS.icmpYes X0.here hx rfl (pc0 := 188) (pc' := 198) rfl (hb hby d3_188) rfl (tlt hc188_88).1 (by decide) (by decide) ?_
                show Steps p.tables e below (s₁.setTop (mkF m 198 #[.val (.ref r1), .val (.int (1 : Int32)), .val (.int i3), .val (.int (e1_r1 &&& (255 : Int32))), .val (.int (3 : Int32)), .val (.int (128 : Int32)), .val (.int (191 : Int32)), .val (.int (3 : Int32)), .val (.int (own_j3a_167_0_v1 i3 e3_r1))] [])) _
                refine XS.iload X0.here hx rfl (hb hby d3_198) rfl ?_
                show Steps p.tables e below (s₁.setTop (mkF m 200 #[.val (.ref r1), .val (.int (1 : Int32)), .val (.int i3), .val (.int (e1_r1 &&& (255 : Int32))), .val (.int (3 : Int32)), .val (.int (128 : Int32)), .val (.int (191 : Int32)), .val (.int (3 : Int32)), .val (.int (own_j3a_167_0_v1 i3 e3_r1))] [(.int (3 : Int32))])) _
                refine XS.iconst X0.here hx rfl (hb hby d3_200) ?_
                show Steps p.tables e below (s₁.setTop (mkF m 201 #[.val (.ref r1), .val (.int (1 : Int32)), .val (.int i3), .val (.int (e1_r1 &&& (255 : Int32))), .val (.int (3 : Int32)), .val (.int (128 : Int32)), .val (.int (191 : Int32)), .val (.int (3 : Int32)), .val (.int (own_j3a_167_0_v1 i3 e3_r1))] [(.int (-1 : Int32)), (.int (3 : Int32))])) _
                refine XS.ixor X0.here hx rfl (hb hby d3_201) rfl ?_
                exact k
              obtain ⟨fs, hr, hrun, hended, hW, hsame⟩ := X0.leave (v := some (.int (-4 : Int32))) (fun h => by rw [Bd.returns] at h; cases h)
              refine ⟨_, _, pre89 _ ?_, hrun, hended, _, _, rfl, ?_, ⟨_, rfl⟩, hW, hsame.mono (by decide) (by decide)⟩
              · show Steps p.tables e below (s₁.setTop (mkF m 202 #[.val (.ref r1), .val (.int (1 : Int32)), .val (.int i3), .val (.int (e1_r1 &&& (255 : Int32))), .val (.int (3 : Int32)), .val (.int (128 : Int32)), .val (.int (191 : Int32)), .val (.int (3 : Int32)), .val (.int (own_j3a_167_0_v1 i3 e3_r1))] [(.int (-4 : Int32))])) _
                exact retI X0 hx Bd.returns (hb hby d3_202) hr
              · show Q3a Z r1 i3 e0_r1 e1_r1 e2_r1 e3_r1 e4_r1 e5_r1 k_r1 h0 n0 _ s₁.heap _
                rw [e0]
                exact ⟨congrArg (fun z => some (Value.int z)) (show (own_r3a i3 e1_r1 e2_r1 e3_r1 e4_r1) = (-4 : Int32) from ((if_neg hc22_3).trans ((if_pos hc29_6).trans ((if_neg hc49_8).trans ((if_neg hc188_76).trans ((if_neg hc195_79).trans (if_pos hc188_88))))))).symm, N0, rfl⟩
            · have pre90 : ∀ t, Steps p.tables e below (s₁.setTop (mkF m 195 #[.val (.ref r1), .val (.int (1 : Int32)), .val (.int i3), .val (.int (e1_r1 &&& (255 : Int32))), .val (.int (3 : Int32)), .val (.int (128 : Int32)), .val (.int (191 : Int32)), .val (.int (3 : Int32)), .val (.int (own_j3a_167_0_v1 i3 e3_r1))] [(.int (191 : Int32)), (.int (own_j3a_167_0_v1 i3 e3_r1))])) t → Steps p.tables e below (s₁.setTop (entryFrame m #[(.ref r1), (.int (1 : Int32)), (.int i3)] 9)) t := by
                intro t k
                refine pre87 _ ?_
                show Steps p.tables e below (s₁.setTop (mkF m 188 #[.val (.ref r1), .val (.int (1 : Int32)), .val (.int i3), .val (.int (e1_r1 &&& (255 : Int32))), .val (.int (3 : Int32)), .val (.int (128 : Int32)), .val (.int (191 : Int32)), .val (.int (3 : Int32)), .val (.int (own_j3a_167_0_v1 i3 e3_r1))] [(.int (128 : Int32)), (.int (own_j3a_167_0_v1 i3 e3_r1))])) _
                refine XS.icmpNo X0.here hx rfl (hb hby d3_188) rfl (flt hc188_88).1 ?_
                show Steps p.tables e below (s₁.setTop (mkF m 191 #[.val (.ref r1), .val (.int (1 : Int32)), .val (.int i3), .val (.int (e1_r1 &&& (255 : Int32))), .val (.int (3 : Int32)), .val (.int (128 : Int32)), .val (.int (191 : Int32)), .val (.int (3 : Int32)), .val (.int (own_j3a_167_0_v1 i3 e3_r1))] [])) _
                refine XS.iload X0.here hx rfl (hb hby d3_191) rfl ?_
                show Steps p.tables e below (s₁.setTop (mkF m 193 #[.val (.ref r1), .val (.int (1 : Int32)), .val (.int i3), .val (.int (e1_r1 &&& (255 : Int32))), .val (.int (3 : Int32)), .val (.int (128 : Int32)), .val (.int (191 : Int32)), .val (.int (3 : Int32)), .val (.int (own_j3a_167_0_v1 i3 e3_r1))] [(.int (own_j3a_167_0_v1 i3 e3_r1))])) _
                refine XS.iload X0.here hx rfl (hb hby d3_193) rfl ?_
                exact k
              by_cases hc195_91 : (191 : Int32) < (own_j3a_167_0_v1 i3 e3_r1)
              · have pre92 : ∀ t, Steps p.tables e below (s₁.setTop (mkF m 202 #[.val (.ref r1), .val (.int (1 : Int32)), .val (.int i3), .val (.int (e1_r1 &&& (255 : Int32))), .val (.int (3 : Int32)), .val (.int (128 : Int32)), .val (.int (191 : Int32)), .val (.int (3 : Int32)), .val (.int (own_j3a_167_0_v1 i3 e3_r1))] [(.int (-4 : Int32))])) t → Steps p.tables e below (s₁.setTop (entryFrame m #[(.ref r1), (.int (1 : Int32)), (.int i3)] 9)) t := by
                  intro t k
                  refine pre90 _ ?_
                  show Steps p.tables e below (s₁.setTop (mkF m 195 #[.val (.ref r1), .val (.int (1 : Int32)), .val (.int i3), .val (.int (e1_r1 &&& (255 : Int32))), .val (.int (3 : Int32)), .val (.int (128 : Int32)), .val (.int (191 : Int32)), .val (.int (3 : Int32)), .val (.int (own_j3a_167_0_v1 i3 e3_r1))] [(.int (191 : Int32)), (.int (own_j3a_167_0_v1 i3 e3_r1))])) _
                  refine XS.icmpNo X0.here hx rfl (hb hby d3_195) rfl (tlt hc195_91).2.2.2 ?_
                  show Steps p.tables e below (s₁.setTop (mkF m 198 #[.val (.ref r1), .val (.int (1 : Int32)), .val (.int i3), .val (.int (e1_r1 &&& (255 : Int32))), .val (.int (3 : Int32)), .val (.int (128 : Int32)), .val (.int (191 : Int32)), .val (.int (3 : Int32)), .val (.int (own_j3a_167_0_v1 i3 e3_r1))] [])) _
                  refine XS.iload X0.here hx rfl (hb hby d3_198) rfl ?_
                  show Steps p.tables e below (s₁.setTop (mkF m 200 #[.val (.ref r1), .val (.int (1 : Int32)), .val (.int i3), .val (.int (e1_r1 &&& (255 : Int32))), .val (.int (3 : Int32)), .val (.int (128 : Int32)), .val (.int (191 : Int32)), .val (.int (3 : Int32)), .val (.int (own_j3a_167_0_v1 i3 e3_r1))] [(.int (3 : Int32))])) _
                  refine XS.iconst X0.here hx rfl (hb hby d3_200) ?_
                  show Steps p.tables e below (s₁.setTop (mkF m 201 #[.val (.ref r1), .val (.int (1 : Int32)), .val (.int i3), .val (.int (e1_r1 &&& (255 : Int32))), .val (.int (3 : Int32)), .val (.int (128 : Int32)), .val (.int (191 : Int32)), .val (.int (3 : Int32)), .val (.int (own_j3a_167_0_v1 i3 e3_r1))] [(.int (-1 : Int32)), (.int (3 : Int32))])) _
                  refine XS.ixor X0.here hx rfl (hb hby d3_201) rfl ?_
                  exact k
                obtain ⟨fs, hr, hrun, hended, hW, hsame⟩ := X0.leave (v := some (.int (-4 : Int32))) (fun h => by rw [Bd.returns] at h; cases h)
                refine ⟨_, _, pre92 _ ?_, hrun, hended, _, _, rfl, ?_, ⟨_, rfl⟩, hW, hsame.mono (by decide) (by decide)⟩
                · show Steps p.tables e below (s₁.setTop (mkF m 202 #[.val (.ref r1), .val (.int (1 : Int32)), .val (.int i3), .val (.int (e1_r1 &&& (255 : Int32))), .val (.int (3 : Int32)), .val (.int (128 : Int32)), .val (.int (191 : Int32)), .val (.int (3 : Int32)), .val (.int (own_j3a_167_0_v1 i3 e3_r1))] [(.int (-4 : Int32))])) _
                  exact retI X0 hx Bd.returns (hb hby d3_202) hr
                · show Q3a Z r1 i3 e0_r1 e1_r1 e2_r1 e3_r1 e4_r1 e5_r1 k_r1 h0 n0 _ s₁.heap _
                  rw [e0]
                  exact ⟨congrArg (fun z => some (Value.int z)) (show (own_r3a i3 e1_r1 e2_r1 e3_r1 e4_r1) = (-4 : Int32) from ((if_neg hc22_3).trans ((if_pos hc29_6).trans ((if_neg hc49_8).trans ((if_neg hc188_76).trans ((if_neg hc195_79).trans ((if_neg hc188_88).trans (if_pos hc195_91)))))))).symm, N0, rfl⟩
              · have pre93 : ∀ t, Steps p.tables e below (s₁.setTop (mkF m 223 #[.val (.ref r1), .val (.int (1 : Int32)), .val (.int i3), .val (.int (e1_r1 &&& (255 : Int32))), .val (.int (3 : Int32)), .val (.int (128 : Int32)), .val (.int (191 : Int32)), .val (.int (4 : Int32)), .val (.int (own_j3a_167_0_v1 i3 e3_r1))] [(.int (4 : Int32))])) t → Steps p.tables e below (s₁.setTop (entryFrame m #[(.ref r1), (.int (1 : Int32)), (.int i3)] 9)) t := by
                  intro t k
                  refine pre90 _ ?_
                  show Steps p.tables e below (s₁.setTop (mkF m 195 #[.val (.ref r1), .val (.int (1 : Int32)), .val (.int i3), .val (.int (e1_r1 &&& (255 : Int32))), .val (.int (3 : Int32)), .val (.int (128 : Int32)), .val (.int (191 : Int32)), .val (.int (3 : Int32)), .val (.int (own_j3a_167_0_v1 i3 e3_r1))] [(.int (191 : Int32)), (.int (own_j3a_167_0_v1 i3 e3_r1))])) _
                  refine XS.icmpYes X0.here hx rfl (pc0 := 195) (pc' := 203) rfl (hb hby d3_195) rfl (flt hc195_91).2.2.2 (by decide) (by decide) ?_
                  show Steps p.tables e below (s₁.setTop (mkF m 203 #[.val (.ref r1), .val (.int (1 : Int32)), .val (.int i3), .val (.int (e1_r1 &&& (255 : Int32))), .val (.int (3 : Int32)), .val (.int (128 : Int32)), .val (.int (191 : Int32)), .val (.int (3 : Int32)), .val (.int (own_j3a_167_0_v1 i3 e3_r1))] [])) _
                  refine XS.sipush X0.here hx rfl (hb hby d3_203) ?_
                  show Steps p.tables e below (s₁.setTop (mkF m 206 #[.val (.ref r1), .val (.int (1 : Int32)), .val (.int i3), .val (.int (e1_r1 &&& (255 : Int32))), .val (.int (3 : Int32)), .val (.int (128 : Int32)), .val (.int (191 : Int32)), .val (.int (3 : Int32)), .val (.int (own_j3a_167_0_v1 i3 e3_r1))] [(.int (128 : Int32))])) _
                  refine XS.istore X0.here hx rfl (hb hby d3_206) rfl (l' := #[.val (.ref r1), .val (.int (1 : Int32)), .val (.int i3), .val (.int (e1_r1 &&& (255 : Int32))), .val (.int (3 : Int32)), .val (.int (128 : Int32)), .val (.int (191 : Int32)), .val (.int (3 : Int32)), .val (.int (own_j3a_167_0_v1 i3 e3_r1))]) rfl ?_
                  show Steps p.tables e below (s₁.setTop (mkF m 208 #[.val (.ref r1), .val (.int (1 : Int32)), .val (.int i3), .val (.int (e1_r1 &&& (255 : Int32))), .val (.int (3 : Int32)), .val (.int (128 : Int32)), .val (.int (191 : Int32)), .val (.int (3 : Int32)), .val (.int (own_j3a_167_0_v1 i3 e3_r1))] [])) _
                  refine XS.sipush X0.here hx rfl (hb hby d3_208) ?_
                  show Steps p.tables e below (s₁.setTop (mkF m 211 #[.val (.ref r1), .val (.int (1 : Int32)), .val (.int i3), .val (.int (e1_r1 &&& (255 : Int32))), .val (.int (3 : Int32)), .val (.int (128 : Int32)), .val (.int (191 : Int32)), .val (.int (3 : Int32)), .val (.int (own_j3a_167_0_v1 i3 e3_r1))] [(.int (191 : Int32))])) _
                  refine XS.istore X0.here hx rfl (hb hby d3_211) rfl (l' := #[.val (.ref r1), .val (.int (1 : Int32)), .val (.int i3), .val (.int (e1_r1 &&& (255 : Int32))), .val (.int (3 : Int32)), .val (.int (128 : Int32)), .val (.int (191 : Int32)), .val (.int (3 : Int32)), .val (.int (own_j3a_167_0_v1 i3 e3_r1))]) rfl ?_
                  show Steps p.tables e below (s₁.setTop (mkF m 213 #[.val (.ref r1), .val (.int (1 : Int32)), .val (.int i3), .val (.int (e1_r1 &&& (255 : Int32))), .val (.int (3 : Int32)), .val (.int (128 : Int32)), .val (.int (191 : Int32)), .val (.int (3 : Int32)), .val (.int (own_j3a_167_0_v1 i3 e3_r1))] [])) _
                  refine XS.iinc X0.here hx rfl (hb hby d3_213) rfl (l' := #[.val (.ref r1), .val (.int (1 : Int32)), .val (.int i3), .val (.int (e1_r1 &&& (255 : Int32))), .val (.int (3 : Int32)), .val (.int (128 : Int32)), .val (.int (191 : Int32)), .val (.int (4 : Int32)), .val (.int (own_j3a_167_0_v1 i3 e3_r1))]) rfl ?_
                  show Steps p.tables e below (s₁.setTop (mkF m 216 #[.val (.ref r1), .val (.int (1 : Int32)), .val (.int i3), .val (.int (e1_r1 &&& (255 : Int32))), .val (.int (3 : Int32)), .val (.int (128 : Int32)), .val (.int (191 : Int32)), .val (.int (4 : Int32)), .val (.int (own_j3a_167_0_v1 i3 e3_r1))] [])) _
                  refine XS.goto X0.here hx rfl (pc0 := 216) (pc' := 155) rfl (hb hby d3_216) (by decide) (by decide) ?_
                  show Steps p.tables e below (s₁.setTop (mkF m 155 #[.val (.ref r1), .val (.int (1 : Int32)), .val (.int i3), .val (.int (e1_r1 &&& (255 : Int32))), .val (.int (3 : Int32)), .val (.int (128 : Int32)), .val (.int (191 : Int32)), .val (.int (4 : Int32)), .val (.int (own_j3a_167_0_v1 i3 e3_r1))] [])) _
                  refine XS.iload X0.here hx rfl (hb hby d3_155) rfl ?_
                  show Steps p.tables e below (s₁.setTop (mkF m 157 #[.val (.ref r1), .val (.int (1 : Int32)), .val (.int i3), .val (.int (e1_r1 &&& (255 : Int32))), .val (.int (3 : Int32)), .val (.int (128 : Int32)), .val (.int (191 : Int32)), .val (.int (4 : Int32)), .val (.int (own_j3a_167_0_v1 i3 e3_r1))] [(.int (4 : Int32))])) _
                  refine XS.iloadN X0.here hx rfl (hb hby d3_157) rfl ?_
                  show Steps p.tables e below (s₁.setTop (mkF m 158 #[.val (.ref r1), .val (.int (1 : Int32)), .val (.int i3), .val (.int (e1_r1 &&& (255 : Int32))), .val (.int (3 : Int32)), .val (.int (128 : Int32)), .val (.int (191 : Int32)), .val (.int (4 : Int32)), .val (.int (own_j3a_167_0_v1 i3 e3_r1))] [(.int (1 : Int32)), (.int (4 : Int32))])) _
                  refine XS.iload X0.here hx rfl (hb hby d3_158) rfl ?_
                  show Steps p.tables e below (s₁.setTop (mkF m 160 #[.val (.ref r1), .val (.int (1 : Int32)), .val (.int i3), .val (.int (e1_r1 &&& (255 : Int32))), .val (.int (3 : Int32)), .val (.int (128 : Int32)), .val (.int (191 : Int32)), .val (.int (4 : Int32)), .val (.int (own_j3a_167_0_v1 i3 e3_r1))] [(.int (3 : Int32)), (.int (1 : Int32)), (.int (4 : Int32))])) _
                  refine XS.iadd X0.here hx rfl (hb hby d3_160) rfl ?_
                  show Steps p.tables e below (s₁.setTop (mkF m 161 #[.val (.ref r1), .val (.int (1 : Int32)), .val (.int i3), .val (.int (e1_r1 &&& (255 : Int32))), .val (.int (3 : Int32)), .val (.int (128 : Int32)), .val (.int (191 : Int32)), .val (.int (4 : Int32)), .val (.int (own_j3a_167_0_v1 i3 e3_r1))] [(.int (4 : Int32)), (.int (4 : Int32))])) _
                  refine XS.icmpYes X0.here hx rfl (pc0 := 161) (pc' := 219) rfl (hb hby d3_161) rfl (flt (by decide : ¬ ((4 : Int32) < (4 : Int32)))).2.1 (by decide) (by decide) ?_
                  show Steps p.tables e below (s₁.setTop (mkF m 219 #[.val (.ref r1), .val (.int (1 : Int32)), .val (.int i3), .val (.int (e1_r1 &&& (255 : Int32))), .val (.int (3 : Int32)), .val (.int (128 : Int32)), .val (.int (191 : Int32)), .val (.int (4 : Int32)), .val (.int (own_j3a_167_0_v1 i3 e3_r1))] [])) _
                  refine XS.iloadN X0.here hx rfl (hb hby d3_219) rfl ?_
                  show Steps p.tables e below (s₁.setTop (mkF m 220 #[.val (.ref r1), .val (.int (1 : Int32)), .val (.int i3), .val (.int (e1_r1 &&& (255 : Int32))), .val (.int (3 : Int32)), .val (.int (128 : Int32)), .val (.int (191 : Int32)), .val (.int (4 : Int32)), .val (.int (own_j3a_167_0_v1 i3 e3_r1))] [(.int (1 : Int32))])) _
                  refine XS.iload X0.here hx rfl (hb hby d3_220) rfl ?_
                  show Steps p.tables e below (s₁.setTop (mkF m 222 #[.val (.ref r1), .val (.int (1 : Int32)), .val (.int i3), .val (.int (e1_r1 &&& (255 : Int32))), .val (.int (3 : Int32)), .val (.int (128 : Int32)), .val (.int (191 : Int32)), .val (.int (4 : Int32)), .val (.int (own_j3a_167_0_v1 i3 e3_r1))] [(.int (3 : Int32)), (.int (1 : Int32))])) _
                  refine XS.iadd X0.here hx rfl (hb hby d3_222) rfl ?_
                  exact k
                obtain ⟨fs, hr, hrun, hended, hW, hsame⟩ := X0.leave (v := some (.int (4 : Int32))) (fun h => by rw [Bd.returns] at h; cases h)
                refine ⟨_, _, pre93 _ ?_, hrun, hended, _, _, rfl, ?_, ⟨_, rfl⟩, hW, hsame.mono (by decide) (by decide)⟩
                · show Steps p.tables e below (s₁.setTop (mkF m 223 #[.val (.ref r1), .val (.int (1 : Int32)), .val (.int i3), .val (.int (e1_r1 &&& (255 : Int32))), .val (.int (3 : Int32)), .val (.int (128 : Int32)), .val (.int (191 : Int32)), .val (.int (4 : Int32)), .val (.int (own_j3a_167_0_v1 i3 e3_r1))] [(.int (4 : Int32))])) _
                  exact retI X0 hx Bd.returns (hb hby d3_223) hr
                · show Q3a Z r1 i3 e0_r1 e1_r1 e2_r1 e3_r1 e4_r1 e5_r1 k_r1 h0 n0 _ s₁.heap _
                  rw [e0]
                  exact ⟨congrArg (fun z => some (Value.int z)) (show (own_r3a i3 e1_r1 e2_r1 e3_r1 e4_r1) = (4 : Int32) from ((if_neg hc22_3).trans ((if_pos hc29_6).trans ((if_neg hc49_8).trans ((if_neg hc188_76).trans ((if_neg hc195_79).trans ((if_neg hc188_88).trans (if_neg hc195_91)))))))).symm, N0, rfl⟩
    · have pre94 : ∀ t, Steps p.tables e below (s₁.setTop (mkF m 167 #[.val (.ref r1), .val (.int (1 : Int32)), .val (.int i3), .val (.int (e1_r1 &&& (255 : Int32))), .val (.int (2 : Int32)), .val (.int (128 : Int32)), .val (.int (191 : Int32)), .val (.int (2 : Int32)), .unset] [(.int i3), (.int (2 : Int32))])) t → Steps p.tables e below (s₁.setTop (entryFrame m #[(.ref r1), (.int (1 : Int32)), (.int i3)] 9)) t := by
        intro t k
        refine pre5 _ ?_
        show Steps p.tables e below (s₁.setTop (mkF m 29 #[.val (.ref r1), .val (.int (1 : Int32)), .val (.int i3), .val (.int (e1_r1 &&& (255 : Int32))), .unset, .val (.int (128 : Int32)), .val (.int (191 : Int32)), .unset, .unset] [(.int (223 : Int32)), (.int (e1_r1 &&& (255 : Int32)))])) _
        refine XS.icmpNo X0.here hx rfl (hb hby d3_29) rfl (flt hc29_6).2.2.1 ?_
        show Steps p.tables e below (s₁.setTop (mkF m 32 #[.val (.ref r1), .val (.int (1 : Int32)), .val (.int i3), .val (.int (e1_r1 &&& (255 : Int32))), .unset, .val (.int (128 : Int32)), .val (.int (191 : Int32)), .unset, .unset] [])) _
        refine XS.iconst X0.here hx rfl (hb hby d3_32) ?_
        show Steps p.tables e below (s₁.setTop (mkF m 33 #[.val (.ref r1), .val (.int (1 : Int32)), .val (.int i3), .val (.int (e1_r1 &&& (255 : Int32))), .unset, .val (.int (128 : Int32)), .val (.int (191 : Int32)), .unset, .unset] [(.int (2 : Int32))])) _
        refine XS.istore X0.here hx rfl (hb hby d3_33) rfl (l' := #[.val (.ref r1), .val (.int (1 : Int32)), .val (.int i3), .val (.int (e1_r1 &&& (255 : Int32))), .val (.int (2 : Int32)), .val (.int (128 : Int32)), .val (.int (191 : Int32)), .unset, .unset]) rfl ?_
        show Steps p.tables e below (s₁.setTop (mkF m 35 #[.val (.ref r1), .val (.int (1 : Int32)), .val (.int i3), .val (.int (e1_r1 &&& (255 : Int32))), .val (.int (2 : Int32)), .val (.int (128 : Int32)), .val (.int (191 : Int32)), .unset, .unset] [])) _
        refine XS.goto X0.here hx rfl (pc0 := 35) (pc' := 150) rfl (hb hby d3_35) (by decide) (by decide) ?_
        show Steps p.tables e below (s₁.setTop (mkF m 150 #[.val (.ref r1), .val (.int (1 : Int32)), .val (.int i3), .val (.int (e1_r1 &&& (255 : Int32))), .val (.int (2 : Int32)), .val (.int (128 : Int32)), .val (.int (191 : Int32)), .unset, .unset] [])) _
        refine XS.iloadN X0.here hx rfl (hb hby d3_150) rfl ?_
        show Steps p.tables e below (s₁.setTop (mkF m 151 #[.val (.ref r1), .val (.int (1 : Int32)), .val (.int i3), .val (.int (e1_r1 &&& (255 : Int32))), .val (.int (2 : Int32)), .val (.int (128 : Int32)), .val (.int (191 : Int32)), .unset, .unset] [(.int (1 : Int32))])) _
        refine XS.iconst X0.here hx rfl (hb hby d3_151) ?_
        show Steps p.tables e below (s₁.setTop (mkF m 152 #[.val (.ref r1), .val (.int (1 : Int32)), .val (.int i3), .val (.int (e1_r1 &&& (255 : Int32))), .val (.int (2 : Int32)), .val (.int (128 : Int32)), .val (.int (191 : Int32)), .unset, .unset] [(.int (1 : Int32)), (.int (1 : Int32))])) _
        refine XS.iadd X0.here hx rfl (hb hby d3_152) rfl ?_
        show Steps p.tables e below (s₁.setTop (mkF m 153 #[.val (.ref r1), .val (.int (1 : Int32)), .val (.int i3), .val (.int (e1_r1 &&& (255 : Int32))), .val (.int (2 : Int32)), .val (.int (128 : Int32)), .val (.int (191 : Int32)), .unset, .unset] [(.int (2 : Int32))])) _
        refine XS.istore X0.here hx rfl (hb hby d3_153) rfl (l' := #[.val (.ref r1), .val (.int (1 : Int32)), .val (.int i3), .val (.int (e1_r1 &&& (255 : Int32))), .val (.int (2 : Int32)), .val (.int (128 : Int32)), .val (.int (191 : Int32)), .val (.int (2 : Int32)), .unset]) rfl ?_
        show Steps p.tables e below (s₁.setTop (mkF m 155 #[.val (.ref r1), .val (.int (1 : Int32)), .val (.int i3), .val (.int (e1_r1 &&& (255 : Int32))), .val (.int (2 : Int32)), .val (.int (128 : Int32)), .val (.int (191 : Int32)), .val (.int (2 : Int32)), .unset] [])) _
        refine XS.iload X0.here hx rfl (hb hby d3_155) rfl ?_
        show Steps p.tables e below (s₁.setTop (mkF m 157 #[.val (.ref r1), .val (.int (1 : Int32)), .val (.int i3), .val (.int (e1_r1 &&& (255 : Int32))), .val (.int (2 : Int32)), .val (.int (128 : Int32)), .val (.int (191 : Int32)), .val (.int (2 : Int32)), .unset] [(.int (2 : Int32))])) _
        refine XS.iloadN X0.here hx rfl (hb hby d3_157) rfl ?_
        show Steps p.tables e below (s₁.setTop (mkF m 158 #[.val (.ref r1), .val (.int (1 : Int32)), .val (.int i3), .val (.int (e1_r1 &&& (255 : Int32))), .val (.int (2 : Int32)), .val (.int (128 : Int32)), .val (.int (191 : Int32)), .val (.int (2 : Int32)), .unset] [(.int (1 : Int32)), (.int (2 : Int32))])) _
        refine XS.iload X0.here hx rfl (hb hby d3_158) rfl ?_
        show Steps p.tables e below (s₁.setTop (mkF m 160 #[.val (.ref r1), .val (.int (1 : Int32)), .val (.int i3), .val (.int (e1_r1 &&& (255 : Int32))), .val (.int (2 : Int32)), .val (.int (128 : Int32)), .val (.int (191 : Int32)), .val (.int (2 : Int32)), .unset] [(.int (2 : Int32)), (.int (1 : Int32)), (.int (2 : Int32))])) _
        refine XS.iadd X0.here hx rfl (hb hby d3_160) rfl ?_
        show Steps p.tables e below (s₁.setTop (mkF m 161 #[.val (.ref r1), .val (.int (1 : Int32)), .val (.int i3), .val (.int (e1_r1 &&& (255 : Int32))), .val (.int (2 : Int32)), .val (.int (128 : Int32)), .val (.int (191 : Int32)), .val (.int (2 : Int32)), .unset] [(.int (3 : Int32)), (.int (2 : Int32))])) _
        refine XS.icmpNo X0.here hx rfl (hb hby d3_161) rfl (tlt (by decide : (2 : Int32) < (3 : Int32))).2.1 ?_
        show Steps p.tables e below (s₁.setTop (mkF m 164 #[.val (.ref r1), .val (.int (1 : Int32)), .val (.int i3), .val (.int (e1_r1 &&& (255 : Int32))), .val (.int (2 : Int32)), .val (.int (128 : Int32)), .val (.int (191 : Int32)), .val (.int (2 : Int32)), .unset] [])) _
        refine XS.iload X0.here hx rfl (hb hby d3_164) rfl ?_
        show Steps p.tables e below (s₁.setTop (mkF m 166 #[.val (.ref r1), .val (.int (1 : Int32)), .val (.int i3), .val (.int (e1_r1 &&& (255 : Int32))), .val (.int (2 : Int32)), .val (.int (128 : Int32)), .val (.int (191 : Int32)), .val (.int (2 : Int32)), .unset] [(.int (2 : Int32))])) _
        refine XS.iloadN X0.here hx rfl (hb hby d3_166) rfl ?_
        exact k
      have pre99 : ∀ t, Steps p.tables e below (s₁.setTop (mkF m 182 #[.val (.ref r1), .val (.int (1 : Int32)), .val (.int i3), .val (.int (e1_r1 &&& (255 : Int32))), .val (.int (2 : Int32)), .val (.int (128 : Int32)), .val (.int (191 : Int32)), .val (.int (2 : Int32)), .unset] [(.int (own_j3a_167_0 i3 e2_r1))])) t → Steps p.tables e below (s₁.setTop (entryFrame m #[(.ref r1), (.int (1 : Int32)), (.int i3)] 9)) t := by
        by_cases hc167_95 : (2 : Int32) < i3
        · obtain ⟨cl96, Ar96, Cq96, Sz96, Nn96, Hh96, Gg96⟩ := id V_r1
          have hin96 : ¬ ((2 : Int32) < 0 ∨ cl96.slots.size ≤ ((2 : Int32)).toNatClampNeg) := inb_of Sz96 ⟨by decide, by decide⟩
          have hat96 : cl96.slots[((2 : Int32)).toNatClampNeg]? = some (.int e2_r1) := Hh96.at hin96 rfl
          have pre97 : ∀ t, Steps p.tables e below (s₁.setTop (mkF m 182 #[.val (.ref r1), .val (.int (1 : Int32)), .val (.int i3), .val (.int (e1_r1 &&& (255 : Int32))), .val (.int (2 : Int32)), .val (.int (128 : Int32)), .val (.int (191 : Int32)), .val (.int (2 : Int32)), .unset] [(.int (e2_r1 &&& (255 : Int32)))])) t → Steps p.tables e below (s₁.setTop (entryFrame m #[(.ref r1), (.int (1 : Int32)), (.int i3)] 9)) t := by
            intro t k
            refine pre94 _ ?_
            show Steps p.tables e below (s₁.setTop (mkF m 167 #[.val (.ref r1), .val (.int (1 : Int32)), .val (.int i3), .val (.int (e1_r1 &&& (255 : Int32))), .val (.int (2 : Int32)), .val (.int (128 : Int32)), .val (.int (191 : Int32)), .val (.int (2 : Int32)), .unset] [(.int i3), (.int (2 : Int32))])) _
            refine XS.icmpNo X0.here hx rfl (hb hby d3_167) rfl (tlt hc167_95).2.1 ?_
            show Steps p.tables e below (s₁.setTop (mkF m 170 #[.val (.ref r1), .val (.int (1 : Int32)), .val (.int i3), .val (.int (e1_r1 &&& (255 : Int32))), .val (.int (2 : Int32)), .val (.int (128 : Int32)), .val (.int (191 : Int32)), .val (.int (2 : Int32)), .unset] [])) _
            refine XS.aloadN X0.here hx rfl (hb hby d3_170) rfl rfl ?_
            show Steps p.tables e below (s₁.setTop (mkF m 171 #[.val (.ref r1), .val (.int (1 : Int32)), .val (.int i3), .val (.int (e1_r1 &&& (255 : Int32))), .val (.int (2 : Int32)), .val (.int (128 : Int32)), .val (.int (191 : Int32)), .val (.int (2 : Int32)), .unset] [(.ref r1)])) _
            refine XS.iload X0.here hx rfl (hb hby d3_171) rfl ?_
            show Steps p.tables e below (s₁.setTop (mkF m 173 #[.val (.ref r1), .val (.int (1 : Int32)), .val (.int i3), .val (.int (e1_r1 &&& (255 : Int32))), .val (.int (2 : Int32)), .val (.int (128 : Int32)), .val (.int (191 : Int32)), .val (.int (2 : Int32)), .unset] [(.int (2 : Int32)), (.ref r1)])) _
            refine X0.baloadBytes hx (j := (2 : Int32)) (v := (.int e2_r1)) (by rw [e0]; exact Ar96.1) (State.isArrayOf_alike hZ.alike Ar96.2.1) Ar96.2.2 hin96 hat96 (g := (mkF m 173 #[.val (.ref r1), .val (.int (1 : Int32)), .val (.int i3), .val (.int (e1_r1 &&& (255 : Int32))), .val (.int (2 : Int32)), .val (.int (128 : Int32)), .val (.int (191 : Int32)), .val (.int (2 : Int32)), .unset] [(.int (2 : Int32)), (.ref r1)])) rfl rfl (hb hby d3_173) _ ?_
            show Steps p.tables e below (s₁.setTop (mkF m 174 #[.val (.ref r1), .val (.int (1 : Int32)), .val (.int i3), .val (.int (e1_r1 &&& (255 : Int32))), .val (.int (2 : Int32)), .val (.int (128 : Int32)), .val (.int (191 : Int32)), .val (.int (2 : Int32)), .unset] [(.int e2_r1)])) _
            refine XS.sipush X0.here hx rfl (hb hby d3_174) ?_
            show Steps p.tables e below (s₁.setTop (mkF m 177 #[.val (.ref r1), .val (.int (1 : Int32)), .val (.int i3), .val (.int (e1_r1 &&& (255 : Int32))), .val (.int (2 : Int32)), .val (.int (128 : Int32)), .val (.int (191 : Int32)), .val (.int (2 : Int32)), .unset] [(.int (255 : Int32)), (.int e2_r1)])) _
            refine XS.iand X0.here hx rfl (hb hby d3_177) rfl ?_
            show Steps p.tables e below (s₁.setTop (mkF m 178 #[.val (.ref r1), .val (.int (1 : Int32)), .val (.int i3), .val (.int (e1_r1 &&& (255 : Int32))), .val (.int (2 : Int32)), .val (.int (128 : Int32)), .val (.int (191 : Int32)), .val (.int (2 : Int32)), .unset] [(.int (e2_r1 &&& (255 : Int32)))])) _
            refine XS.goto X0.here hx rfl (pc0 := 178) (pc' := 182) rfl (hb hby d3_178) (by decide) (by decide) ?_
            exact k
          exact fun t k => pre97 t (by rw [show (own_j3a_167_0 i3 e2_r1) = (e2_r1 &&& (255 : Int32)) from (if_pos hc167_95)] at k; exact k)
        · have pre98 : ∀ t, Steps p.tables e below (s₁.setTop (mkF m 182 #[.val (.ref r1), .val (.int (1 : Int32)), .val (.int i3), .val (.int (e1_r1 &&& (255 : Int32))), .val (.int (2 : Int32)), .val (.int (128 : Int32)), .val (.int (191 : Int32)), .val (.int (2 : Int32)), .unset] [(.int (-1 : Int32))])) t → Steps p.tables e below (s₁.setTop (entryFrame m #[(.ref r1), (.int (1 : Int32)), (.int i3)] 9)) t := by
            intro t k
            refine pre94 _ ?_
            show Steps p.tables e below (s₁.setTop (mkF m 167 #[.val (.ref r1), .val (.int (1 : Int32)), .val (.int i3), .val (.int (e1_r1 &&& (255 : Int32))), .val (.int (2 : Int32)), .val (.int (128 : Int32)), .val (.int (191 : Int32)), .val (.int (2 : Int32)), .unset] [(.int i3), (.int (2 : Int32))])) _
            refine XS.icmpYes X0.here hx rfl (pc0 := 167) (pc' := 181) rfl (hb hby d3_167) rfl (flt hc167_95).2.1 (by decide) (by decide) ?_
            show Steps p.tables e below (s₁.setTop (mkF m 181 #[.val (.ref r1), .val (.int (1 : Int32)), .val (.int i3), .val (.int (e1_r1 &&& (255 : Int32))), .val (.int (2 : Int32)), .val (.int (128 : Int32)), .val (.int (191 : Int32)), .val (.int (2 : Int32)), .unset] [])) _
            refine XS.iconst X0.here hx rfl (hb hby d3_181) ?_
            exact k
          exact fun t k => pre98 t (by rw [show (own_j3a_167_0 i3 e2_r1) = (-1 : Int32) from (if_neg hc167_95)] at k; exact k)
      have pre100 : ∀ t, Steps p.tables e below (s₁.setTop (mkF m 188 #[.val (.ref r1), .val (.int (1 : Int32)), .val (.int i3), .val (.int (e1_r1 &&& (255 : Int32))), .val (.int (2 : Int32)), .val (.int (128 : Int32)), .val (.int (191 : Int32)), .val (.int (2 : Int32)), .val (.int (own_j3a_167_0 i3 e2_r1))] [(.int (128 : Int32)), (.int (own_j3a_167_0 i3 e2_r1))])) t → Steps p.tables e below (s₁.setTop (entryFrame m #[(.ref r1), (.int (1 : Int32)), (.int i3)] 9)) t := by
        intro t k
        refine pre99 _ ?_
        show Steps p.tables e below (s₁.setTop (mkF m 182 #[.val (.ref r1), .val (.int (1 : Int32)), .val (.int i3), .val (.int (e1_r1 &&& (255 : Int32))), .val (.int (2 : Int32)), .val (.int (128 : Int32)), .val (.int (191 : Int32)), .val (.int (2 : Int32)), .unset] [(.int (own_j3a_167_0 i3 e2_r1))])) _
        refine XS.istore X0.here hx rfl (hb hby d3_182) rfl (l' := #[.val (.ref r1), .val (.int (1 : Int32)), .val (.int i3), .val (.int (e1_r1 &&& (255 : Int32))), .val (.int (2 : Int32)), .val (.int (128 : Int32)), .val (.int (191 : Int32)), .val (.int (2 : Int32)), .val (.int (own_j3a_167_0 i3 e2_r1))]) rfl ?_
        show Steps p.tables e below (s₁.setTop (mkF m 184 #[.val (.ref r1), .val (.int (1 : Int32)), .val (.int i3), .val (.int (e1_r1 &&& (255 : Int32))), .val (.int (2 : Int32)), .val (.int (128 : Int32)), .val (.int (191 : Int32)), .val (.int (2 : Int32)), .val (.int (own_j3a_167_0 i3 e2_r1))] [])) _
        refine XS.iload X0.here hx rfl (hb hby d3_184) rfl ?_
        show Steps p.tables e below (s₁.setTop (mkF m 186 #[.val (.ref r1), .val (.int (1 : Int32)), .val (.int i3), .val (.int (e1_r1 &&& (255 : Int32))), .val (.int (2 : Int32)), .val (.int (128 : Int32)), .val (.int (191 : Int32)), .val (.int (2 : Int32)), .val (.int (own_j3a_167_0 i3 e2_r1))] [(.int (own_j3a_167_0 i3 e2_r1))])) _
        refine XS.iload X0.here hx rfl (hb hby d3_186) rfl ?_
        exact k
      by_cases hc188_101 : (own_j3a_167_0 i3 e2_r1) < (128 : Int32)
      · have pre102 : ∀ t, Steps p.tables e below (s₁.setTop (mkF m 202 #[.val (.ref r1), .val (.int (1 : Int32)), .val (.int i3), .val (.int (e1_r1 &&& (255 : Int32))), .val (.int (2 : Int32)), .val (.int (128 : Int32)), .val (.int (191 : Int32)), .val (.int (2 : Int32)), .val (.int (own_j3a_167_0 i3 e2_r1))] [(.int (-3 : Int32))])) t → Steps p.tables e below (s₁.setTop (entryFrame m #[(.ref r1), (.int (1 : Int32)), (.int i3)] 9)) t := by
          intro t k
          refine pre100 _ ?_
          show Steps p.tables e below (s₁.setTop (mkF m 188 #[.val (.ref r1), .val (.int (1 : Int32)), .val (.int i3), .val (.int (e1_r1 &&& (255 : Int32))), .val (.int (2 : Int32)), .val (.int (128 : Int32)), .val (.int (191 : Int32)), .val (.int (2 : Int32)), .val (.int (own_j3a_167_0 i3 e2_r1))] [(.int (128 : Int32)), (.int (own_j3a_167_0 i3 e2_r1))])) _
          refine XS.icmpYes X0.here hx rfl (pc0 := 188) (pc' := 198) rfl (hb hby d3_188) rfl (tlt hc188_101).1 (by decide) (by decide) ?_
          show Steps p.tables e below (s₁.setTop (mkF m 198 #[.val (.ref r1), .val (.int (1 : Int32)), .val (.int i3), .val (.int (e1_r1 &&& (255 : Int32))), .val (.int (2 : Int32)), .val (.int (128 : Int32)), .val (.int (191 : Int32)), .val (.int (2 : Int32)), .val (.int (own_j3a_167_0 i3 e2_r1))] [])) _
          refine XS.iload X0.here hx rfl (hb hby d3_198) rfl ?_
          show Steps p.tables e below (s₁.setTop (mkF m 200 #[.val (.ref r1), .val (.int (1 : Int32)), .val (.int i3), .val (.int (e1_r1 &&& (255 : Int32))), .val (.int (2 : Int32)), .val (.int (128 : Int32)), .val (.int (191 : Int32)), .val (.int (2 : Int32)), .val (.int (own_j3a_167_0 i3 e2_r1))] [(.int (2 : Int32))])) _
          refine XS.iconst X0.here hx rfl (hb hby d3_200) ?_
          show Steps p.tables e below (s₁.setTop (mkF m 201 #[.val (.ref r1), .val (.int (1 : Int32)), .val (.int i3), .val (.int (e1_r1 &&& (255 : Int32))), .val (.int (2 : Int32)), .val (.int (128 : Int32)), .val (.int (191 : Int32)), .val (.int (2 : Int32)), .val (.int (own_j3a_167_0 i3 e2_r1))] [(.int (-1 : Int32)), (.int (2 : Int32))])) _
          refine XS.ixor X0.here hx rfl (hb hby d3_201) rfl ?_
          exact k
        obtain ⟨fs, hr, hrun, hended, hW, hsame⟩ := X0.leave (v := some (.int (-3 : Int32))) (fun h => by rw [Bd.returns] at h; cases h)
        refine ⟨_, _, pre102 _ ?_, hrun, hended, _, _, rfl, ?_, ⟨_, rfl⟩, hW, hsame.mono (by decide) (by decide)⟩
        · show Steps p.tables e below (s₁.setTop (mkF m 202 #[.val (.ref r1), .val (.int (1 : Int32)), .val (.int i3), .val (.int (e1_r1 &&& (255 : Int32))), .val (.int (2 : Int32)), .val (.int (128 : Int32)), .val (.int (191 : Int32)), .val (.int (2 : Int32)), .val (.int (own_j3a_167_0 i3 e2_r1))] [(.int (-3 : Int32))])) _
          exact retI X0 hx Bd.returns (hb hby d3_202) hr
        · show Q3a Z r1 i3 e0_r1 e1_r1 e2_r1 e3_r1 e4_r1 e5_r1 k_r1 h0 n0 _ s₁.heap _
          rw [e0]
          exact ⟨congrArg (fun z => some (Value.int z)) (show (own_r3a i3 e1_r1 e2_r1 e3_r1 e4_r1) = (-3 : Int32) from ((if_neg hc22_3).trans ((if_neg hc29_6).trans (if_pos hc188_101)))).symm, N0, rfl⟩
      · have pre103 : ∀ t, Steps p.tables e below (s₁.setTop (mkF m 195 #[.val (.ref r1), .val (.int (1 : Int32)), .val (.int i3), .val (.int (e1_r1 &&& (255 : Int32))), .val (.int (2 : Int32)), .val (.int (128 : Int32)), .val (.int (191 : Int32)), .val (.int (2 : Int32)), .val (.int (own_j3a_167_0 i3 e2_r1))] [(.int (191 : Int32)), (.int (own_j3a_167_0 i3 e2_r1))])) t → Steps p.tables e below (s₁.setTop (entryFrame m #[(.ref r1), (.int (1 : Int32)), (.int i3)] 9)) t := by
          intro t k
          refine pre100 _ ?_
          show Steps p.tables e below (s₁.setTop (mkF m 188 #[.val (.ref r1), .val (.int (1 : Int32)), .val (.int i3), .val (.int (e1_r1 &&& (255 : Int32))), .val (.int (2 : Int32)), .val (.int (128 : Int32)), .val (.int (191 : Int32)), .val (.int (2 : Int32)), .val (.int (own_j3a_167_0 i3 e2_r1))] [(.int (128 : Int32)), (.int (own_j3a_167_0 i3 e2_r1))])) _
          refine XS.icmpNo X0.here hx rfl (hb hby d3_188) rfl (flt hc188_101).1 ?_
          show Steps p.tables e below (s₁.setTop (mkF m 191 #[.val (.ref r1), .val (.int (1 : Int32)), .val (.int i3), .val (.int (e1_r1 &&& (255 : Int32))), .val (.int (2 : Int32)), .val (.int (128 : Int32)), .val (.int (191 : Int32)), .val (.int (2 : Int32)), .val (.int (own_j3a_167_0 i3 e2_r1))] [])) _
          refine XS.iload X0.here hx rfl (hb hby d3_191) rfl ?_
          show Steps p.tables e below (s₁.setTop (mkF m 193 #[.val (.ref r1), .val (.int (1 : Int32)), .val (.int i3), .val (.int (e1_r1 &&& (255 : Int32))), .val (.int (2 : Int32)), .val (.int (128 : Int32)), .val (.int (191 : Int32)), .val (.int (2 : Int32)), .val (.int (own_j3a_167_0 i3 e2_r1))] [(.int (own_j3a_167_0 i3 e2_r1))])) _
          refine XS.iload X0.here hx rfl (hb hby d3_193) rfl ?_
          exact k
        by_cases hc195_104 : (191 : Int32) < (own_j3a_167_0 i3 e2_r1)
        · have pre105 : ∀ t, Steps p.tables e below (s₁.setTop (mkF m 202 #[.val (.ref r1), .val (.int (1 : Int32)), .val (.int i3), .val (.int (e1_r1 &&& (255 : Int32))), .val (.int (2 : Int32)), .val (.int (128 : Int32)), .val (.int (191 : Int32)), .val (.int (2 : Int32)), .val (.int (own_j3a_167_0 i3 e2_r1))] [(.int (-3 : Int32))])) t → Steps p.tables e below (s₁.setTop (entryFrame m #[(.ref r1), (.int (1 : Int32)), (.int i3)] 9)) t := by
            intro t k
            refine pre103 _ ?_
            show Steps p.tables e below (s₁.setTop (mkF m 195 #[.val (.ref r1), .val (.int (1 : Int32)), .val (.int i3), .val (.int (e1_r1 &&& (255 : Int32))), .val (.int (2 : Int32)), .val (.int (128 : Int32)), .val (.int (191 : Int32)), .val (.int (2 : Int32)), .val (.int (own_j3a_167_0 i3 e2_r1))] [(.int (191 : Int32)), (.int (own_j3a_167_0 i3 e2_r1))])) _
            refine XS.icmpNo X0.here hx rfl (hb hby d3_195) rfl (tlt hc195_104).2.2.2 ?_
            show Steps p.tables e below (s₁.setTop (mkF m 198 #[.val (.ref r1), .val (.int (1 : Int32)), .val (.int i3), .val (.int (e1_r1 &&& (255 : Int32))), .val (.int (2 : Int32)), .val (.int (128 : Int32)), .val (.int (191 : Int32)), .val (.int (2 : Int32)), .val (.int (own_j3a_167_0 i3 e2_r1))] [])) _
            refine XS.iload X0.here hx rfl (hb hby d3_198) rfl ?_
            show Steps p.tables e below (s₁.setTop (mkF m 200 #[.val (.ref r1), .val (.int (1 : Int32)), .val (.int i3), .val (.int (e1_r1 &&& (255 : Int32))), .val (.int (2 : Int32)), .val (.int (128 : Int32)), .val (.int (191 : Int32)), .val (.int (2 : Int32)), .val (.int (own_j3a_167_0 i3 e2_r1))] [(.int (2 : Int32))])) _
            refine XS.iconst X0.here hx rfl (hb hby d3_200) ?_
            show Steps p.tables e below (s₁.setTop (mkF m 201 #[.val (.ref r1), .val (.int (1 : Int32)), .val (.int i3), .val (.int (e1_r1 &&& (255 : Int32))), .val (.int (2 : Int32)), .val (.int (128 : Int32)), .val (.int (191 : Int32)), .val (.int (2 : Int32)), .val (.int (own_j3a_167_0 i3 e2_r1))] [(.int (-1 : Int32)), (.int (2 : Int32))])) _
            refine XS.ixor X0.here hx rfl (hb hby d3_201) rfl ?_
            exact k
          obtain ⟨fs, hr, hrun, hended, hW, hsame⟩ := X0.leave (v := some (.int (-3 : Int32))) (fun h => by rw [Bd.returns] at h; cases h)
          refine ⟨_, _, pre105 _ ?_, hrun, hended, _, _, rfl, ?_, ⟨_, rfl⟩, hW, hsame.mono (by decide) (by decide)⟩
          · show Steps p.tables e below (s₁.setTop (mkF m 202 #[.val (.ref r1), .val (.int (1 : Int32)), .val (.int i3), .val (.int (e1_r1 &&& (255 : Int32))), .val (.int (2 : Int32)), .val (.int (128 : Int32)), .val (.int (191 : Int32)), .val (.int (2 : Int32)), .val (.int (own_j3a_167_0 i3 e2_r1))] [(.int (-3 : Int32))])) _
            exact retI X0 hx Bd.returns (hb hby d3_202) hr
          · show Q3a Z r1 i3 e0_r1 e1_r1 e2_r1 e3_r1 e4_r1 e5_r1 k_r1 h0 n0 _ s₁.heap _
            rw [e0]
            exact ⟨congrArg (fun z => some (Value.int z)) (show (own_r3a i3 e1_r1 e2_r1 e3_r1 e4_r1) = (-3 : Int32) from ((if_neg hc22_3).trans ((if_neg hc29_6).trans ((if_neg hc188_101).trans (if_pos hc195_104))))).symm, N0, rfl⟩
        · have pre106 : ∀ t, Steps p.tables e below (s₁.setTop (mkF m 223 #[.val (.ref r1), .val (.int (1 : Int32)), .val (.int i3), .val (.int (e1_r1 &&& (255 : Int32))), .val (.int (2 : Int32)), .val (.int (128 : Int32)), .val (.int (191 : Int32)), .val (.int (3 : Int32)), .val (.int (own_j3a_167_0 i3 e2_r1))] [(.int (3 : Int32))])) t → Steps p.tables e below (s₁.setTop (entryFrame m #[(.ref r1), (.int (1 : Int32)), (.int i3)] 9)) t := by
            intro t k
            refine pre103 _ ?_
            show Steps p.tables e below (s₁.setTop (mkF m 195 #[.val (.ref r1), .val (.int (1 : Int32)), .val (.int i3), .val (.int (e1_r1 &&& (255 : Int32))), .val (.int (2 : Int32)), .val (.int (128 : Int32)), .val (.int (191 : Int32)), .val (.int (2 : Int32)), .val (.int (own_j3a_167_0 i3 e2_r1))] [(.int (191 : Int32)), (.int (own_j3a_167_0 i3 e2_r1))])) _
            refine XS.icmpYes X0.here hx rfl (pc0 := 195) (pc' := 203) rfl (hb hby d3_195) rfl (flt hc195_104).2.2.2 (by decide) (by decide) ?_
            show Steps p.tables e below (s₁.setTop (mkF m 203 #[.val (.ref r1), .val (.int (1 : Int32)), .val (.int i3), .val (.int (e1_r1 &&& (255 : Int32))), .val (.int (2 : Int32)), .val (.int (128 : Int32)), .val (.int (191 : Int32)), .val (.int (2 : Int32)), .val (.int (own_j3a_167_0 i3 e2_r1))] [])) _
            refine XS.sipush X0.here hx rfl (hb hby d3_203) ?_
            show Steps p.tables e below (s₁.setTop (mkF m 206 #[.val (.ref r1), .val (.int (1 : Int32)), .val (.int i3), .val (.int (e1_r1 &&& (255 : Int32))), .val (.int (2 : Int32)), .val (.int (128 : Int32)), .val (.int (191 : Int32)), .val (.int (2 : Int32)), .val (.int (own_j3a_167_0 i3 e2_r1))] [(.int (128 : Int32))])) _
            refine XS.istore X0.here hx rfl (hb hby d3_206) rfl (l' := #[.val (.ref r1), .val (.int (1 : Int32)), .val (.int i3), .val (.int (e1_r1 &&& (255 : Int32))), .val (.int (2 : Int32)), .val (.int (128 : Int32)), .val (.int (191 : Int32)), .val (.int (2 : Int32)), .val (.int (own_j3a_167_0 i3 e2_r1))]) rfl ?_
            show Steps p.tables e below (s₁.setTop (mkF m 208 #[.val (.ref r1), .val (.int (1 : Int32)), .val (.int i3), .val (.int (e1_r1 &&& (255 : Int32))), .val (.int (2 : Int32)), .val (.int (128 : Int32)), .val (.int (191 : Int32)), .val (.int (2 : Int32)), .val (.int (own_j3a_167_0 i3 e2_r1))] [])) _
            refine XS.sipush X0.here hx rfl (hb hby d3_208) ?_
            show Steps p.tables e below (s₁.setTop (mkF m 211 #[.val (.ref r1), .val (.int (1 : Int32)), .val (.int i3), .val (.int (e1_r1 &&& (255 : Int32))), .val (.int (2 : Int32)), .val (.int (128 : Int32)), .val (.int (191 : Int32)), .val (.int (2 : Int32)), .val (.int (own_j3a_167_0 i3 e2_r1))] [(.int (191 : Int32))])) _
            refine XS.istore X0.here hx rfl (hb hby d3_211) rfl (l' := #[.val (.ref r1), .val (.int (1 : Int32)), .val (.int i3), .val (.int (e1_r1 &&& (255 : Int32))), .val (.int (2 : Int32)), .val (.int (128 : Int32)), .val (.int (191 : Int32)), .val (.int (2 : Int32)), .val (.int (own_j3a_167_0 i3 e2_r1))]) rfl ?_
            show Steps p.tables e below (s₁.setTop (mkF m 213 #[.val (.ref r1), .val (.int (1 : Int32)), .val (.int i3), .val (.int (e1_r1 &&& (255 : Int32))), .val (.int (2 : Int32)), .val (.int (128 : Int32)), .val (.int (191 : Int32)), .val (.int (2 : Int32)), .val (.int (own_j3a_167_0 i3 e2_r1))] [])) _
            refine XS.iinc X0.here hx rfl (hb hby d3_213) rfl (l' := #[.val (.ref r1), .val (.int (1 : Int32)), .val (.int i3), .val (.int (e1_r1 &&& (255 : Int32))), .val (.int (2 : Int32)), .val (.int (128 : Int32)), .val (.int (191 : Int32)), .val (.int (3 : Int32)), .val (.int (own_j3a_167_0 i3 e2_r1))]) rfl ?_
            show Steps p.tables e below (s₁.setTop (mkF m 216 #[.val (.ref r1), .val (.int (1 : Int32)), .val (.int i3), .val (.int (e1_r1 &&& (255 : Int32))), .val (.int (2 : Int32)), .val (.int (128 : Int32)), .val (.int (191 : Int32)), .val (.int (3 : Int32)), .val (.int (own_j3a_167_0 i3 e2_r1))] [])) _
            refine XS.goto X0.here hx rfl (pc0 := 216) (pc' := 155) rfl (hb hby d3_216) (by decide) (by decide) ?_
            show Steps p.tables e below (s₁.setTop (mkF m 155 #[.val (.ref r1), .val (.int (1 : Int32)), .val (.int i3), .val (.int (e1_r1 &&& (255 : Int32))), .val (.int (2 : Int32)), .val (.int (128 : Int32)), .val (.int (191 : Int32)), .val (.int (3 : Int32)), .val (.int (own_j3a_167_0 i3 e2_r1))] [])) _
            refine XS.iload X0.here hx rfl (hb hby d3_155) rfl ?_
            show Steps p.tables e below (s₁.setTop (mkF m 157 #[.val (.ref r1), .val (.int (1 : Int32)), .val (.int i3), .val (.int (e1_r1 &&& (255 : Int32))), .val (.int (2 : Int32)), .val (.int (128 : Int32)), .val (.int (191 : Int32)), .val (.int (3 : Int32)), .val (.int (own_j3a_167_0 i3 e2_r1))] [(.int (3 : Int32))])) _
            refine XS.iloadN X0.here hx rfl (hb hby d3_157) rfl ?_
            show Steps p.tables e below (s₁.setTop (mkF m 158 #[.val (.ref r1), .val (.int (1 : Int32)), .val (.int i3), .val (.int (e1_r1 &&& (255 : Int32))), .val (.int (2 : Int32)), .val (.int (128 : Int32)), .val (.int (191 : Int32)), .val (.int (3 : Int32)), .val (.int (own_j3a_167_0 i3 e2_r1))] [(.int (1 : Int32)), (.int (3 : Int32))])) _
            refine XS.iload X0.here hx rfl (hb hby d3_158) rfl ?_
            show Steps p.tables e below (s₁.setTop (mkF m 160 #[.val (.ref r1), .val (.int (1 : Int32)), .val (.int i3), .val (.int (e1_r1 &&& (255 : Int32))), .val (.int (2 : Int32)), .val (.int (128 : Int32)), .val (.int (191 : Int32)), .val (.int (3 : Int32)), .val (.int (own_j3a_167_0 i3 e2_r1))] [(.int (2 : Int32)), (.int (1 : Int32)), (.int (3 : Int32))])) _
            refine XS.iadd X0.here hx rfl (hb hby d3_160) rfl ?_
            show Steps p.tables e below (s₁.setTop (mkF m 161 #[.val (.ref r1), .val (.int (1 : Int32)), .val (.int i3), .val (.int (e1_r1 &&& (255 : Int32))), .val (.int (2 : Int32)), .val (.int (128 : Int32)), .val (.int (191 : Int32)), .val (.int (3 : Int32)), .val (.int (own_j3a_167_0 i3 e2_r1))] [(.int (3 : Int32)), (.int (3 : Int32))])) _
            refine XS.icmpYes X0.here hx rfl (pc0 := 161) (pc' := 219) rfl (hb hby d3_161) rfl (flt (by decide : ¬ ((3 : Int32) < (3 : Int32)))).2.1 (by decide) (by decide) ?_
            show Steps p.tables e below (s₁.setTop (mkF m 219 #[.val (.ref r1), .val (.int (1 : Int32)), .val (.int i3), .val (.int (e1_r1 &&& (255 : Int32))), .val (.int (2 : Int32)), .val (.int (128 : Int32)), .val (.int (191 : Int32)), .val (.int (3 : Int32)), .val (.int (own_j3a_167_0 i3 e2_r1))] [])) _
            refine XS.iloadN X0.here hx rfl (hb hby d3_219) rfl ?_
            show Steps p.tables e below (s₁.setTop (mkF m 220 #[.val (.ref r1), .val (.int (1 : Int32)), .val (.int i3), .val (.int (e1_r1 &&& (255 : Int32))), .val (.int (2 : Int32)), .val (.int (128 : Int32)), .val (.int (191 : Int32)), .val (.int (3 : Int32)), .val (.int (own_j3a_167_0 i3 e2_r1))] [(.int (1 : Int32))])) _
            refine XS.iload X0.here hx rfl (hb hby d3_220) rfl ?_
            show Steps p.tables e below (s₁.setTop (mkF m 222 #[.val (.ref r1), .val (.int (1 : Int32)), .val (.int i3), .val (.int (e1_r1 &&& (255 : Int32))), .val (.int (2 : Int32)), .val (.int (128 : Int32)), .val (.int (191 : Int32)), .val (.int (3 : Int32)), .val (.int (own_j3a_167_0 i3 e2_r1))] [(.int (2 : Int32)), (.int (1 : Int32))])) _
            refine XS.iadd X0.here hx rfl (hb hby d3_222) rfl ?_
            exact k
          obtain ⟨fs, hr, hrun, hended, hW, hsame⟩ := X0.leave (v := some (.int (3 : Int32))) (fun h => by rw [Bd.returns] at h; cases h)
          refine ⟨_, _, pre106 _ ?_, hrun, hended, _, _, rfl, ?_, ⟨_, rfl⟩, hW, hsame.mono (by decide) (by decide)⟩
          · show Steps p.tables e below (s₁.setTop (mkF m 223 #[.val (.ref r1), .val (.int (1 : Int32)), .val (.int i3), .val (.int (e1_r1 &&& (255 : Int32))), .val (.int (2 : Int32)), .val (.int (128 : Int32)), .val (.int (191 : Int32)), .val (.int (3 : Int32)), .val (.int (own_j3a_167_0 i3 e2_r1))] [(.int (3 : Int32))])) _
            exact retI X0 hx Bd.returns (hb hby d3_223) hr
          · show Q3a Z r1 i3 e0_r1 e1_r1 e2_r1 e3_r1 e4_r1 e5_r1 k_r1 h0 n0 _ s₁.heap _
            rw [e0]
            exact ⟨congrArg (fun z => some (Value.int z)) (show (own_r3a i3 e1_r1 e2_r1 e3_r1 e4_r1) = (3 : Int32) from ((if_neg hc22_3).trans ((if_neg hc29_6).trans ((if_neg hc188_101).trans (if_neg hc195_104))))).symm, N0, rfl⟩
def own_j0_162_0 (i1 : Int32) (i2 : Int32) (i3 : Int32) (i4 : Int32) (i6 : Int32) : Int32 := (if (own_r3 ((1 : Int32) + ((i6 &&& (2147483647 : Int32)) % (6 : Int32))) (nar .byte (((128 : Int32) ||| (i1 &&& (127 : Int32))).toInt8.toInt32)) (nar .byte ((own_j1_6_0 i2).toInt8.toInt32)) (nar .byte ((own_j1_6_0 i3).toInt8.toInt32)) (nar .byte ((own_j1_6_0 i4).toInt8.toInt32))) = (own_r2 (0 : Int32) ((1 : Int32) + ((i6 &&& (2147483647 : Int32)) % (6 : Int32))) ((128 : Int32) ||| (i1 &&& (127 : Int32))) (own_j1_6_0 i2) (own_j1_6_0 i3) (own_j1_6_0 i4)) then (1 : Int32) else (0 : Int32))
def own_j0_162_0_v1 (i1 : Int32) (i2 : Int32) (i3 : Int32) (i4 : Int32) (i6 : Int32) : Int32 := (if (own_r3a ((2 : Int32) + ((i6 &&& (2147483647 : Int32)) % (5 : Int32))) (nar .byte (((128 : Int32) ||| (i1 &&& (127 : Int32))).toInt8.toInt32)) (nar .byte ((own_j1_6_0 i2).toInt8.toInt32)) (nar .byte ((own_j1_6_0 i3).toInt8.toInt32)) (nar .byte ((own_j1_6_0 i4).toInt8.toInt32))) = (own_r2 (1 : Int32) ((2 : Int32) + ((i6 &&& (2147483647 : Int32)) % (5 : Int32))) ((128 : Int32) ||| (i1 &&& (127 : Int32))) (own_j1_6_0 i2) (own_j1_6_0 i3) (own_j1_6_0 i4)) then (1 : Int32) else (0 : Int32))
def own_r0 (i1 : Int32) (i2 : Int32) (i3 : Int32) (i4 : Int32) (i5 : Int32) (i6 : Int32) : Int32 := (if (i5 &&& (1 : Int32)) = (0 : Int32) then (nar .boolean (own_j0_162_0 i1 i2 i3 i4 i6)) else (nar .boolean (own_j0_162_0_v1 i1 i2 i3 i4 i6)))
theorem own_ob0_at (i5 : Int32) : (i5 &&& (1 : Int32)) = (0 : Int32) ∨ (i5 &&& (1 : Int32)) = (1 : Int32) := and_one i5
theorem own_cont (x : Int32) : 0 ≤ (own_j1_6_0 x).toInt ∧ (own_j1_6_0 x).toInt < 256 := by
  unfold own_j1_6_0
  split
  · have h := c_mask x 255 8 (by decide) (by decide)
    have k8 : ((2 ^ 8 : Nat) : Int) = 256 := by decide
    rw [k8] at h
    omega
  · have h := own_or128 x 6 (by decide) 63 (by decide)
    omega
theorem own_ok (x : Int32) (h0 : 128 ≤ x.toInt) (h1 : x.toInt < 256) : ((own_j2_4_1 x).toInt = 0 ∧ (x.toInt < 194 ∨ 245 ≤ x.toInt)) ∨ ((own_j2_4_1 x).toInt = 1 ∧ 194 ≤ x.toInt ∧ x.toInt < 245) := by
  have z0 : (0 : Int32).toInt = 0 := by decide
  have z1 : (1 : Int32).toInt = 1 := by decide
  have z2 : (2 : Int32).toInt = 2 := by decide
  have z3 : (3 : Int32).toInt = 3 := by decide
  have z4 : (4 : Int32).toInt = 4 := by decide
  have zm1 : (-1 : Int32).toInt = -1 := by decide
  have z128 : (128 : Int32).toInt = 128 := by decide
  have z143 : (143 : Int32).toInt = 143 := by decide
  have z144 : (144 : Int32).toInt = 144 := by decide
  have z159 : (159 : Int32).toInt = 159 := by decide
  have z160 : (160 : Int32).toInt = 160 := by decide
  have z191 : (191 : Int32).toInt = 191 := by decide
  have e1 := c_mask x 31 5 (by decide) (by decide)
  have e2 := c_mask x 7 3 (by decide) (by decide)
  have k5 : ((2 ^ 5 : Nat) : Int) = 32 := by decide
  have k3 : ((2 ^ 3 : Nat) : Int) = 8 := by decide
  rw [k5] at e1
  rw [k3] at e2
  unfold own_j2_4_1 own_j2_31_0 own_j2_75_0
  simp only [Int32.lt_iff_toInt_lt, e1, e2, show (0 : Int32).toInt = 0 from by decide, show (1 : Int32).toInt = 1 from by decide, show (2 : Int32).toInt = 2 from by decide, show (3 : Int32).toInt = 3 from by decide, show (4 : Int32).toInt = 4 from by decide, show (-1 : Int32).toInt = -1 from by decide, show (16 : Int32).toInt = 16 from by decide, show (32 : Int32).toInt = 32 from by decide, show (128 : Int32).toInt = 128 from by decide, show (143 : Int32).toInt = 143 from by decide, show (144 : Int32).toInt = 144 from by decide, show (159 : Int32).toInt = 159 from by decide, show (160 : Int32).toInt = 160 from by decide, show (191 : Int32).toInt = 191 from by decide, show (192 : Int32).toInt = 192 from by decide, show (194 : Int32).toInt = 194 from by decide, show (223 : Int32).toInt = 223 from by decide, show (224 : Int32).toInt = 224 from by decide, show (237 : Int32).toInt = 237 from by decide, show (239 : Int32).toInt = 239 from by decide, show (240 : Int32).toInt = 240 from by decide, show (244 : Int32).toInt = 244 from by decide, show (248 : Int32).toInt = 248 from by decide, show (271 : Int32).toInt = 271 from by decide, show (864 : Int32).toInt = 864 from by decide, show (895 : Int32).toInt = 895 from by decide]
  repeat' split
  all_goals omega
theorem own_n (x : Int32) : ((own_j2_4_0 x).toInt = 0 ∧ (x.toInt < 192 ∨ 248 ≤ x.toInt)) ∨ ((own_j2_4_0 x).toInt = 2 ∧ 192 ≤ x.toInt ∧ x.toInt < 224) ∨ ((own_j2_4_0 x).toInt = 3 ∧ 224 ≤ x.toInt ∧ x.toInt < 240) ∨ ((own_j2_4_0 x).toInt = 4 ∧ 240 ≤ x.toInt ∧ x.toInt < 248) := by
  have z0 : (0 : Int32).toInt = 0 := by decide
  have z1 : (1 : Int32).toInt = 1 := by decide
  have z2 : (2 : Int32).toInt = 2 := by decide
  have z3 : (3 : Int32).toInt = 3 := by decide
  have z4 : (4 : Int32).toInt = 4 := by decide
  have zm1 : (-1 : Int32).toInt = -1 := by decide
  have z128 : (128 : Int32).toInt = 128 := by decide
  have z143 : (143 : Int32).toInt = 143 := by decide
  have z144 : (144 : Int32).toInt = 144 := by decide
  have z159 : (159 : Int32).toInt = 159 := by decide
  have z160 : (160 : Int32).toInt = 160 := by decide
  have z191 : (191 : Int32).toInt = 191 := by decide
  unfold own_j2_4_0
  simp only [Int32.lt_iff_toInt_lt, show (0 : Int32).toInt = 0 from by decide, show (1 : Int32).toInt = 1 from by decide, show (2 : Int32).toInt = 2 from by decide, show (3 : Int32).toInt = 3 from by decide, show (4 : Int32).toInt = 4 from by decide, show (-1 : Int32).toInt = -1 from by decide, show (16 : Int32).toInt = 16 from by decide, show (32 : Int32).toInt = 32 from by decide, show (128 : Int32).toInt = 128 from by decide, show (143 : Int32).toInt = 143 from by decide, show (144 : Int32).toInt = 144 from by decide, show (159 : Int32).toInt = 159 from by decide, show (160 : Int32).toInt = 160 from by decide, show (191 : Int32).toInt = 191 from by decide, show (192 : Int32).toInt = 192 from by decide, show (194 : Int32).toInt = 194 from by decide, show (223 : Int32).toInt = 223 from by decide, show (224 : Int32).toInt = 224 from by decide, show (237 : Int32).toInt = 237 from by decide, show (239 : Int32).toInt = 239 from by decide, show (240 : Int32).toInt = 240 from by decide, show (244 : Int32).toInt = 244 from by decide, show (248 : Int32).toInt = 248 from by decide, show (271 : Int32).toInt = 271 from by decide, show (864 : Int32).toInt = 864 from by decide, show (895 : Int32).toInt = 895 from by decide]
  repeat' split
  all_goals omega
theorem own_f107 (t m c : Int32) (hc0 : 0 ≤ c.toInt) (hc1 : c.toInt < 256) : ((own_j2_107_0 t m c).toInt = 1 ∧ ((t + 1).toInt < m.toInt ∧ 128 ≤ c.toInt ∧ c.toInt < 192)) ∨ ((own_j2_107_0 t m c).toInt = 0 ∧ ¬ ((t + 1).toInt < m.toInt ∧ 128 ≤ c.toInt ∧ c.toInt < 192)) := by
  have z0 : (0 : Int32).toInt = 0 := by decide
  have z1 : (1 : Int32).toInt = 1 := by decide
  unfold own_j2_107_0
  simp only [own_m192 c hc0 hc1, Int32.lt_iff_toInt_lt]
  repeat' split
  all_goals omega
theorem own_nne (x k : Int32) (h : ¬ (own_j2_4_0 x).toInt = k.toInt) : ¬ own_j2_4_0 x = k := fun q => h (by rw [q])
theorem own_firstA (t m x c : Int32) (hx0 : 192 ≤ x.toInt) (hx1 : x.toInt < 224) (hc0 : 0 ≤ c.toInt) (hc1 : c.toInt < 256) :
    ((own_j2_131_0 t m x c).toInt = 1 ∧ ((t + 1).toInt < m.toInt ∧ 128 ≤ c.toInt ∧ c.toInt < 192)) ∨ ((own_j2_131_0 t m x c).toInt = 0 ∧ ¬ ((t + 1).toInt < m.toInt ∧ 128 ≤ c.toInt ∧ c.toInt < 192)) := by
  have hn := own_n x
  have z3 : (3 : Int32).toInt = 3 := by decide
  have z4 : (4 : Int32).toInt = 4 := by decide
  unfold own_j2_131_0
  rw [if_neg (own_nne x 3 (by omega)), if_neg (own_nne x 4 (by omega))]
  exact own_f107 t m c hc0 hc1
theorem own_firstB (t m x c : Int32) (hx0 : 224 ≤ x.toInt) (hx1 : x.toInt < 240) (hc0 : 0 ≤ c.toInt) (hc1 : c.toInt < 256) :
    ((own_j2_131_0 t m x c).toInt = 1 ∧ ((t + 1).toInt < m.toInt ∧ 128 ≤ c.toInt ∧ c.toInt < 192) ∧ 32 ≤ x.toInt % 16 * 64 + c.toInt % 64 ∧ (x.toInt % 16 * 64 + c.toInt % 64 < 864 ∨ 895 < x.toInt % 16 * 64 + c.toInt % 64)) ∨
    ((own_j2_131_0 t m x c).toInt = 0 ∧ ¬ (((t + 1).toInt < m.toInt ∧ 128 ≤ c.toInt ∧ c.toInt < 192) ∧ 32 ≤ x.toInt % 16 * 64 + c.toInt % 64 ∧ (x.toInt % 16 * 64 + c.toInt % 64 < 864 ∨ 895 < x.toInt % 16 * 64 + c.toInt % 64))) := by
  have e1 := c_mask x 15 4 (by decide) (by decide)
  have k4 : ((2 ^ 4 : Nat) : Int) = 16 := by decide
  rw [k4] at e1
  have p1 := own_p (x &&& (15 : Int32)) c (by omega) (by omega)
  rw [e1] at p1
  have hn := own_n x
  have z3 : (3 : Int32).toInt = 3 := by decide
  have f := own_f107 t m c hc0 hc1
  have n3 : own_j2_4_0 x = 3 := Int32.toInt_inj.mp (by omega)
  unfold own_j2_131_0
  rw [if_pos n3]
  unfold own_j2_150_0
  clear hn e1 k4 n3 z3
  generalize (x &&& (15 : Int32)) <<< ((6 : Int32) &&& 31) ||| (c &&& (63 : Int32)) = P at *
  rw [← p1]
  have l1 : P < (32 : Int32) ↔ P.toInt < 32 := Int32.lt_iff_toInt_lt
  have l2 : P < (864 : Int32) ↔ P.toInt < 864 := Int32.lt_iff_toInt_lt
  have l3 : (895 : Int32) < P ↔ 895 < P.toInt := Int32.lt_iff_toInt_lt
  clear p1
  rcases f with ⟨f1, f2⟩ | ⟨f1, f2⟩
  · rw [if_neg (fun q => by rw [q] at f1; revert f1; decide)]
    by_cases q1 : P.toInt < 32
    · rw [if_pos (l1.mpr q1)]; exact Or.inr ⟨by decide, fun h => by have := h.2.1; omega⟩
    · rw [if_neg (mt l1.mp q1)]
      by_cases q2 : P.toInt < 864
      · rw [if_pos (l2.mpr q2)]; exact Or.inl ⟨by decide, f2, by omega, Or.inl q2⟩
      · rw [if_neg (mt l2.mp q2)]
        by_cases q3 : 895 < P.toInt
        · rw [if_pos (l3.mpr q3)]; exact Or.inl ⟨by decide, f2, by omega, Or.inr q3⟩
        · rw [if_neg (mt l3.mp q3)]; exact Or.inr ⟨by decide, fun h => by have := h.2.2; omega⟩
  · rw [if_pos (Int32.toInt_inj.mp (by rw [f1]; decide))]; exact Or.inr ⟨by decide, fun h => f2 h.1⟩
theorem own_firstC (t m x c : Int32) (hx0 : 240 ≤ x.toInt) (hx1 : x.toInt < 248) (hc0 : 0 ≤ c.toInt) (hc1 : c.toInt < 256) :
    ((own_j2_131_0 t m x c).toInt = 1 ∧ ((t + 1).toInt < m.toInt ∧ 128 ≤ c.toInt ∧ c.toInt < 192) ∧ 16 ≤ x.toInt % 8 * 64 + c.toInt % 64 ∧ x.toInt % 8 * 64 + c.toInt % 64 ≤ 271) ∨
    ((own_j2_131_0 t m x c).toInt = 0 ∧ ¬ (((t + 1).toInt < m.toInt ∧ 128 ≤ c.toInt ∧ c.toInt < 192) ∧ 16 ≤ x.toInt % 8 * 64 + c.toInt % 64 ∧ x.toInt % 8 * 64 + c.toInt % 64 ≤ 271)) := by
  have e1 := c_mask x 7 3 (by decide) (by decide)
  have k4 : ((2 ^ 3 : Nat) : Int) = 8 := by decide
  rw [k4] at e1
  have p1 := own_p (x &&& (7 : Int32)) c (by omega) (by omega)
  rw [e1] at p1
  have hn := own_n x
  have z3 : (3 : Int32).toInt = 3 := by decide
  have z4 : (4 : Int32).toInt = 4 := by decide
  have f := own_f107 t m c hc0 hc1
  have n4 : own_j2_4_0 x = 4 := Int32.toInt_inj.mp (by omega)
  unfold own_j2_131_0
  rw [if_neg (own_nne x 3 (by omega)), if_pos n4]
  unfold own_j2_208_0
  clear hn e1 k4 n4 z3 z4
  generalize (x &&& (7 : Int32)) <<< ((6 : Int32) &&& 31) ||| (c &&& (63 : Int32)) = P at *
  rw [← p1]
  have l1 : P < (16 : Int32) ↔ P.toInt < 16 := Int32.lt_iff_toInt_lt
  have l3 : (271 : Int32) < P ↔ 271 < P.toInt := Int32.lt_iff_toInt_lt
  clear p1
  rcases f with ⟨f1, f2⟩ | ⟨f1, f2⟩
  · rw [if_neg (fun q => by rw [q] at f1; revert f1; decide)]
    by_cases q1 : P.toInt < 16
    · rw [if_pos (l1.mpr q1)]; exact Or.inr ⟨by decide, fun h => by have := h.2.1; omega⟩
    · rw [if_neg (mt l1.mp q1)]
      by_cases q3 : 271 < P.toInt
      · rw [if_pos (l3.mpr q3)]; exact Or.inr ⟨by decide, fun h => by have := h.2.2; omega⟩
      · rw [if_neg (mt l3.mp q3)]; exact Or.inl ⟨by decide, f2, by omega, by omega⟩
  · rw [if_pos (Int32.toInt_inj.mp (by rw [f1]; decide))]; exact Or.inr ⟨by decide, fun h => f2 h.1⟩
theorem own_okI (x : Int32) (h0 : 128 ≤ x.toInt) (h1 : x.toInt < 256) : own_j2_4_1 x = 0 ↔ (x.toInt < 194 ∨ 245 ≤ x.toInt) := by
  have ok := own_ok x h0 h1
  have z : own_j2_4_1 x = 0 ↔ (own_j2_4_1 x).toInt = 0 := Int32.toInt_inj.symm
  rw [z]
  omega
theorem own_n2I (x : Int32) : own_j2_4_0 x = 2 ↔ (192 ≤ x.toInt ∧ x.toInt < 224) := by
  have ok := own_n x
  have z : own_j2_4_0 x = 2 ↔ (own_j2_4_0 x).toInt = 2 := Int32.toInt_inj.symm
  rw [z]
  omega
theorem own_n3I (x : Int32) : own_j2_4_0 x = 3 ↔ (224 ≤ x.toInt ∧ x.toInt < 240) := by
  have ok := own_n x
  have z : own_j2_4_0 x = 3 ↔ (own_j2_4_0 x).toInt = 3 := Int32.toInt_inj.symm
  rw [z]
  omega
theorem own_w1_0 (m E c : Int32) (h : E &&& (255 : Int32) = c) : (1 < m.toInt ∧ (own_j3_167_0 m E).toInt = c.toInt) ∨ (m.toInt ≤ 1 ∧ (own_j3_167_0 m E).toInt = -1) := by
  have zm1 : (-1 : Int32).toInt = -1 := by decide
  have za : (1 : Int32).toInt = 1 := by decide
  unfold own_j3_167_0
  rw [h]
  simp only [Int32.lt_iff_toInt_lt, za]
  split <;> omega
theorem own_w2_0 (m E c : Int32) (h : E &&& (255 : Int32) = c) : (2 < m.toInt ∧ (own_j3_167_0_v1 m E).toInt = c.toInt) ∨ (m.toInt ≤ 2 ∧ (own_j3_167_0_v1 m E).toInt = -1) := by
  have zm1 : (-1 : Int32).toInt = -1 := by decide
  have za : (2 : Int32).toInt = 2 := by decide
  unfold own_j3_167_0_v1
  rw [h]
  simp only [Int32.lt_iff_toInt_lt, za]
  split <;> omega
theorem own_w3_0 (m E c : Int32) (h : E &&& (255 : Int32) = c) : (3 < m.toInt ∧ (own_j3_167_0_v2 m E).toInt = c.toInt) ∨ (m.toInt ≤ 3 ∧ (own_j3_167_0_v2 m E).toInt = -1) := by
  have zm1 : (-1 : Int32).toInt = -1 := by decide
  have za : (3 : Int32).toInt = 3 := by decide
  unfold own_j3_167_0_v2
  rw [h]
  simp only [Int32.lt_iff_toInt_lt, za]
  split <;> omega
theorem own_lo4_0 (E x : Int32) (h : E &&& (255 : Int32) = x) : (x.toInt = 240 ∧ (own_j3_113_0 E).toInt = 144) ∨ (x.toInt ≠ 240 ∧ (own_j3_113_0 E).toInt = 128) := by
  have za : (144 : Int32).toInt = 144 := by decide
  have zb : (128 : Int32).toInt = 128 := by decide
  have ze : x = (240 : Int32) ↔ x.toInt = 240 := Int32.toInt_inj.symm
  unfold own_j3_113_0
  rw [h]
  simp only [ze]
  split <;> omega
theorem own_hi4_0 (E x : Int32) (h : E &&& (255 : Int32) = x) : (x.toInt = 244 ∧ (own_j3_130_0 E).toInt = 143) ∨ (x.toInt ≠ 244 ∧ (own_j3_130_0 E).toInt = 191) := by
  have za : (143 : Int32).toInt = 143 := by decide
  have zb : (191 : Int32).toInt = 191 := by decide
  have ze : x = (244 : Int32) ↔ x.toInt = 244 := Int32.toInt_inj.symm
  unfold own_j3_130_0
  rw [h]
  simp only [ze]
  split <;> omega
theorem own_lo3_0 (E x : Int32) (h : E &&& (255 : Int32) = x) : (x.toInt = 224 ∧ (own_j3_59_0 E).toInt = 160) ∨ (x.toInt ≠ 224 ∧ (own_j3_59_0 E).toInt = 128) := by
  have za : (160 : Int32).toInt = 160 := by decide
  have zb : (128 : Int32).toInt = 128 := by decide
  have ze : x = (224 : Int32) ↔ x.toInt = 224 := Int32.toInt_inj.symm
  unfold own_j3_59_0
  rw [h]
  simp only [ze]
  split <;> omega
theorem own_hi3_0 (E x : Int32) (h : E &&& (255 : Int32) = x) : (x.toInt = 237 ∧ (own_j3_76_0 E).toInt = 159) ∨ (x.toInt ≠ 237 ∧ (own_j3_76_0 E).toInt = 191) := by
  have za : (159 : Int32).toInt = 159 := by decide
  have zb : (191 : Int32).toInt = 191 := by decide
  have ze : x = (237 : Int32) ↔ x.toInt = 237 := Int32.toInt_inj.symm
  unfold own_j3_76_0
  rw [h]
  simp only [ze]
  split <;> omega
theorem own_w1_1 (m E c : Int32) (h : E &&& (255 : Int32) = c) : (2 < m.toInt ∧ (own_j3a_167_0 m E).toInt = c.toInt) ∨ (m.toInt ≤ 2 ∧ (own_j3a_167_0 m E).toInt = -1) := by
  have zm1 : (-1 : Int32).toInt = -1 := by decide
  have za : (2 : Int32).toInt = 2 := by decide
  unfold own_j3a_167_0
  rw [h]
  simp only [Int32.lt_iff_toInt_lt, za]
  split <;> omega
theorem own_w2_1 (m E c : Int32) (h : E &&& (255 : Int32) = c) : (3 < m.toInt ∧ (own_j3a_167_0_v1 m E).toInt = c.toInt) ∨ (m.toInt ≤ 3 ∧ (own_j3a_167_0_v1 m E).toInt = -1) := by
  have zm1 : (-1 : Int32).toInt = -1 := by decide
  have za : (3 : Int32).toInt = 3 := by decide
  unfold own_j3a_167_0_v1
  rw [h]
  simp only [Int32.lt_iff_toInt_lt, za]
  split <;> omega
theorem own_w3_1 (m E c : Int32) (h : E &&& (255 : Int32) = c) : (4 < m.toInt ∧ (own_j3a_167_0_v2 m E).toInt = c.toInt) ∨ (m.toInt ≤ 4 ∧ (own_j3a_167_0_v2 m E).toInt = -1) := by
  have zm1 : (-1 : Int32).toInt = -1 := by decide
  have za : (4 : Int32).toInt = 4 := by decide
  unfold own_j3a_167_0_v2
  rw [h]
  simp only [Int32.lt_iff_toInt_lt, za]
  split <;> omega
theorem own_lo4_1 (E x : Int32) (h : E &&& (255 : Int32) = x) : (x.toInt = 240 ∧ (own_j3a_113_0 E).toInt = 144) ∨ (x.toInt ≠ 240 ∧ (own_j3a_113_0 E).toInt = 128) := by
  have za : (144 : Int32).toInt = 144 := by decide
  have zb : (128 : Int32).toInt = 128 := by decide
  have ze : x = (240 : Int32) ↔ x.toInt = 240 := Int32.toInt_inj.symm
  unfold own_j3a_113_0
  rw [h]
  simp only [ze]
  split <;> omega
theorem own_hi4_1 (E x : Int32) (h : E &&& (255 : Int32) = x) : (x.toInt = 244 ∧ (own_j3a_130_0 E).toInt = 143) ∨ (x.toInt ≠ 244 ∧ (own_j3a_130_0 E).toInt = 191) := by
  have za : (143 : Int32).toInt = 143 := by decide
  have zb : (191 : Int32).toInt = 191 := by decide
  have ze : x = (244 : Int32) ↔ x.toInt = 244 := Int32.toInt_inj.symm
  unfold own_j3a_130_0
  rw [h]
  simp only [ze]
  split <;> omega
theorem own_lo3_1 (E x : Int32) (h : E &&& (255 : Int32) = x) : (x.toInt = 224 ∧ (own_j3a_59_0 E).toInt = 160) ∨ (x.toInt ≠ 224 ∧ (own_j3a_59_0 E).toInt = 128) := by
  have za : (160 : Int32).toInt = 160 := by decide
  have zb : (128 : Int32).toInt = 128 := by decide
  have ze : x = (224 : Int32) ↔ x.toInt = 224 := Int32.toInt_inj.symm
  unfold own_j3a_59_0
  rw [h]
  simp only [ze]
  split <;> omega
theorem own_hi3_1 (E x : Int32) (h : E &&& (255 : Int32) = x) : (x.toInt = 237 ∧ (own_j3a_76_0 E).toInt = 159) ∨ (x.toInt ≠ 237 ∧ (own_j3a_76_0 E).toInt = 191) := by
  have za : (159 : Int32).toInt = 159 := by decide
  have zb : (191 : Int32).toInt = 191 := by decide
  have ze : x = (237 : Int32) ↔ x.toInt = 237 := Int32.toInt_inj.symm
  unfold own_j3a_76_0
  rw [h]
  simp only [ze]
  split <;> omega
theorem own_eq0 (m x c1 c2 c3 E0 E1 E2 E3 : Int32) (h0 : E0 &&& (255 : Int32) = x) (h1 : E1 &&& (255 : Int32) = c1) (h2 : E2 &&& (255 : Int32) = c2) (h3 : E3 &&& (255 : Int32) = c3) (hx0 : 128 ≤ x.toInt) (hx1 : x.toInt < 256) (a0 : 0 ≤ c1.toInt) (a1 : c1.toInt < 256) (b0 : 0 ≤ c2.toInt) (b1 : c2.toInt < 256) (d0 : 0 ≤ c3.toInt) (d1 : c3.toInt < 256) :
    own_r3 m E0 E1 E2 E3 = own_r2 (0 : Int32) m x c1 c2 c3 := by
  have w1 : (1 < m.toInt ∧ (own_j3_167_0 m E1).toInt = c1.toInt) ∨ (m.toInt ≤ 1 ∧ (own_j3_167_0 m E1).toInt = -1) := own_w1_0 m E1 c1 h1
  have w2 : (2 < m.toInt ∧ (own_j3_167_0_v1 m E2).toInt = c2.toInt) ∨ (m.toInt ≤ 2 ∧ (own_j3_167_0_v1 m E2).toInt = -1) := own_w2_0 m E2 c2 h2
  have w3 : (3 < m.toInt ∧ (own_j3_167_0_v2 m E3).toInt = c3.toInt) ∨ (m.toInt ≤ 3 ∧ (own_j3_167_0_v2 m E3).toInt = -1) := own_w3_0 m E3 c3 h3
  have lo4 : (x.toInt = 240 ∧ (own_j3_113_0 E0).toInt = 144) ∨ (x.toInt ≠ 240 ∧ (own_j3_113_0 E0).toInt = 128) := own_lo4_0 E0 x h0
  have hi4 : (x.toInt = 244 ∧ (own_j3_130_0 E0).toInt = 143) ∨ (x.toInt ≠ 244 ∧ (own_j3_130_0 E0).toInt = 191) := own_hi4_0 E0 x h0
  have lo3 : (x.toInt = 224 ∧ (own_j3_59_0 E0).toInt = 160) ∨ (x.toInt ≠ 224 ∧ (own_j3_59_0 E0).toInt = 128) := own_lo3_0 E0 x h0
  have hi3 : (x.toInt = 237 ∧ (own_j3_76_0 E0).toInt = 159) ∨ (x.toInt ≠ 237 ∧ (own_j3_76_0 E0).toInt = 191) := own_hi3_0 E0 x h0
  have q2 := own_m192 c2 b0 b1
  have q3 := own_m192 c3 d0 d1
  have t1 : ((0 : Int32) + 1).toInt = 1 := by decide
  have t2 : ((0 : Int32) + 2).toInt = 2 := by decide
  have t3 : ((0 : Int32) + 3).toInt = 3 := by decide
  have e1 := own_okI x hx0 hx1
  have e2 := own_n2I x
  have e3 := own_n3I x
  have fa := own_firstA (0 : Int32) m x c1
  have fb := own_firstB (0 : Int32) m x c1
  have fc := own_firstC (0 : Int32) m x c1
  have vz : own_j2_131_0 (0 : Int32) m x c1 = 0 ↔ (own_j2_131_0 (0 : Int32) m x c1).toInt = 0 := Int32.toInt_inj.symm
  rw [t1] at fa fb fc
  unfold own_r3 own_r2
  rw [h0]
  simp only [e1, e2, e3, q2, q3, vz, Int32.lt_iff_toInt_lt, t2, t3, show (0 : Int32).toInt = 0 from by decide, show (1 : Int32).toInt = 1 from by decide, show (2 : Int32).toInt = 2 from by decide, show (3 : Int32).toInt = 3 from by decide, show (4 : Int32).toInt = 4 from by decide, show (-1 : Int32).toInt = -1 from by decide, show (16 : Int32).toInt = 16 from by decide, show (32 : Int32).toInt = 32 from by decide, show (128 : Int32).toInt = 128 from by decide, show (143 : Int32).toInt = 143 from by decide, show (144 : Int32).toInt = 144 from by decide, show (159 : Int32).toInt = 159 from by decide, show (160 : Int32).toInt = 160 from by decide, show (191 : Int32).toInt = 191 from by decide, show (192 : Int32).toInt = 192 from by decide, show (194 : Int32).toInt = 194 from by decide, show (223 : Int32).toInt = 223 from by decide, show (224 : Int32).toInt = 224 from by decide, show (237 : Int32).toInt = 237 from by decide, show (239 : Int32).toInt = 239 from by decide, show (240 : Int32).toInt = 240 from by decide, show (244 : Int32).toInt = 244 from by decide, show (248 : Int32).toInt = 248 from by decide, show (271 : Int32).toInt = 271 from by decide, show (864 : Int32).toInt = 864 from by decide, show (895 : Int32).toInt = 895 from by decide]
  clear e1 e2 e3 q2 q3 vz t1 t2 t3 h0 h1 h2 h3
  generalize (own_j2_131_0 (0 : Int32) m x c1).toInt = fi at *
  generalize (own_j3_167_0 m E1).toInt = v1 at *
  generalize (own_j3_167_0_v1 m E2).toInt = v2 at *
  generalize (own_j3_167_0_v2 m E3).toInt = v3 at *
  generalize (own_j3_113_0 E0).toInt = l4 at *
  generalize (own_j3_130_0 E0).toInt = u4 at *
  generalize (own_j3_59_0 E0).toInt = l3 at *
  generalize (own_j3_76_0 E0).toInt = u3 at *
  generalize x.toInt = X at *
  generalize c1.toInt = C1 at *
  generalize c2.toInt = C2 at *
  generalize c3.toInt = C3 at *
  generalize m.toInt = M at *
  by_cases g1 : X < 194
  · rw [if_pos g1, if_pos (Or.inl g1)]; decide
  rw [if_neg g1]
  by_cases g2 : 244 < X
  · rw [if_pos (by omega), if_pos (by omega), if_pos g2, if_pos (Or.inr (by omega))]; decide
  rw [if_neg (show ¬ (X < 194 ∨ 245 ≤ X) by omega)]
  by_cases g3 : 223 < X
  · rw [if_pos g3]
    by_cases g4 : 239 < X
    · have f := fc (by omega) (by omega) a0 a1
      clear fa fb fc lo3 hi3
      rw [if_pos g4, if_neg g2]
      rcases f with ⟨f1, ⟨f2, f3, f4⟩, f5, f6⟩ | ⟨f1, f2⟩
      · have ev : v1 = C1 := by clear w2 w3 lo4 hi4; omega
        rw [if_neg (show ¬ fi = 0 by omega), if_neg (show ¬ v1 < l4 by clear w1 w2 w3 hi4; omega), if_neg (show ¬ u4 < v1 by clear w1 w2 w3 lo4; omega), if_neg (show ¬ (192 ≤ X ∧ X < 224) by omega), if_neg (show ¬ (224 ≤ X ∧ X < 240) by omega)]
        clear w1 lo4 hi4 f1 f2 f3 f4 f5 f6 ev
        repeat' split
        all_goals first | decide | (exfalso; omega)
      · rw [if_pos f1]
        by_cases k : v1 < l4
        · rw [if_pos k]; decide
        · rw [if_neg k, if_pos (by clear w2 w3; omega)]; decide
    · have f := fb (by omega) (by omega) a0 a1
      clear fa fb fc lo4 hi4 w3
      rw [if_neg g4]
      rcases f with ⟨f1, ⟨f2, f3, f4⟩, f5, f6⟩ | ⟨f1, f2⟩
      · have ev : v1 = C1 := by clear w2 lo3 hi3; omega
        rw [if_neg (show ¬ fi = 0 by omega), if_neg (show ¬ v1 < l3 by clear w1 w2 hi3; omega), if_neg (show ¬ u3 < v1 by clear w1 w2 lo3; omega), if_neg (show ¬ (192 ≤ X ∧ X < 224) by omega), if_pos (show (224 ≤ X ∧ X < 240) by omega)]
        clear w1 lo3 hi3 f1 f2 f3 f4 f5 f6 ev
        repeat' split
        all_goals first | decide | (exfalso; omega)
      · rw [if_pos f1]
        by_cases k : v1 < l3
        · rw [if_pos k]; decide
        · rw [if_neg k, if_pos (by clear w2; omega)]; decide
  · have f := fa (by omega) (by omega) a0 a1
    clear fa fb fc lo4 hi4 lo3 hi3 w2 w3
    rw [if_neg g3, if_pos (show (192 ≤ X ∧ X < 224) by omega)]
    repeat' split
    all_goals first | decide | (exfalso; omega)
theorem own_eq1 (m x c1 c2 c3 E0 E1 E2 E3 : Int32) (h0 : E0 &&& (255 : Int32) = x) (h1 : E1 &&& (255 : Int32) = c1) (h2 : E2 &&& (255 : Int32) = c2) (h3 : E3 &&& (255 : Int32) = c3) (hx0 : 128 ≤ x.toInt) (hx1 : x.toInt < 256) (a0 : 0 ≤ c1.toInt) (a1 : c1.toInt < 256) (b0 : 0 ≤ c2.toInt) (b1 : c2.toInt < 256) (d0 : 0 ≤ c3.toInt) (d1 : c3.toInt < 256) :
    own_r3a m E0 E1 E2 E3 = own_r2 (1 : Int32) m x c1 c2 c3 := by
  have w1 : (2 < m.toInt ∧ (own_j3a_167_0 m E1).toInt = c1.toInt) ∨ (m.toInt ≤ 2 ∧ (own_j3a_167_0 m E1).toInt = -1) := own_w1_1 m E1 c1 h1
  have w2 : (3 < m.toInt ∧ (own_j3a_167_0_v1 m E2).toInt = c2.toInt) ∨ (m.toInt ≤ 3 ∧ (own_j3a_167_0_v1 m E2).toInt = -1) := own_w2_1 m E2 c2 h2
  have w3 : (4 < m.toInt ∧ (own_j3a_167_0_v2 m E3).toInt = c3.toInt) ∨ (m.toInt ≤ 4 ∧ (own_j3a_167_0_v2 m E3).toInt = -1) := own_w3_1 m E3 c3 h3
  have lo4 : (x.toInt = 240 ∧ (own_j3a_113_0 E0).toInt = 144) ∨ (x.toInt ≠ 240 ∧ (own_j3a_113_0 E0).toInt = 128) := own_lo4_1 E0 x h0
  have hi4 : (x.toInt = 244 ∧ (own_j3a_130_0 E0).toInt = 143) ∨ (x.toInt ≠ 244 ∧ (own_j3a_130_0 E0).toInt = 191) := own_hi4_1 E0 x h0
  have lo3 : (x.toInt = 224 ∧ (own_j3a_59_0 E0).toInt = 160) ∨ (x.toInt ≠ 224 ∧ (own_j3a_59_0 E0).toInt = 128) := own_lo3_1 E0 x h0
  have hi3 : (x.toInt = 237 ∧ (own_j3a_76_0 E0).toInt = 159) ∨ (x.toInt ≠ 237 ∧ (own_j3a_76_0 E0).toInt = 191) := own_hi3_1 E0 x h0
  have q2 := own_m192 c2 b0 b1
  have q3 := own_m192 c3 d0 d1
  have t1 : ((1 : Int32) + 1).toInt = 2 := by decide
  have t2 : ((1 : Int32) + 2).toInt = 3 := by decide
  have t3 : ((1 : Int32) + 3).toInt = 4 := by decide
  have e1 := own_okI x hx0 hx1
  have e2 := own_n2I x
  have e3 := own_n3I x
  have fa := own_firstA (1 : Int32) m x c1
  have fb := own_firstB (1 : Int32) m x c1
  have fc := own_firstC (1 : Int32) m x c1
  have vz : own_j2_131_0 (1 : Int32) m x c1 = 0 ↔ (own_j2_131_0 (1 : Int32) m x c1).toInt = 0 := Int32.toInt_inj.symm
  rw [t1] at fa fb fc
  unfold own_r3a own_r2
  rw [h0]
  simp only [e1, e2, e3, q2, q3, vz, Int32.lt_iff_toInt_lt, t2, t3, show (0 : Int32).toInt = 0 from by decide, show (1 : Int32).toInt = 1 from by decide, show (2 : Int32).toInt = 2 from by decide, show (3 : Int32).toInt = 3 from by decide, show (4 : Int32).toInt = 4 from by decide, show (-1 : Int32).toInt = -1 from by decide, show (16 : Int32).toInt = 16 from by decide, show (32 : Int32).toInt = 32 from by decide, show (128 : Int32).toInt = 128 from by decide, show (143 : Int32).toInt = 143 from by decide, show (144 : Int32).toInt = 144 from by decide, show (159 : Int32).toInt = 159 from by decide, show (160 : Int32).toInt = 160 from by decide, show (191 : Int32).toInt = 191 from by decide, show (192 : Int32).toInt = 192 from by decide, show (194 : Int32).toInt = 194 from by decide, show (223 : Int32).toInt = 223 from by decide, show (224 : Int32).toInt = 224 from by decide, show (237 : Int32).toInt = 237 from by decide, show (239 : Int32).toInt = 239 from by decide, show (240 : Int32).toInt = 240 from by decide, show (244 : Int32).toInt = 244 from by decide, show (248 : Int32).toInt = 248 from by decide, show (271 : Int32).toInt = 271 from by decide, show (864 : Int32).toInt = 864 from by decide, show (895 : Int32).toInt = 895 from by decide]
  clear e1 e2 e3 q2 q3 vz t1 t2 t3 h0 h1 h2 h3
  generalize (own_j2_131_0 (1 : Int32) m x c1).toInt = fi at *
  generalize (own_j3a_167_0 m E1).toInt = v1 at *
  generalize (own_j3a_167_0_v1 m E2).toInt = v2 at *
  generalize (own_j3a_167_0_v2 m E3).toInt = v3 at *
  generalize (own_j3a_113_0 E0).toInt = l4 at *
  generalize (own_j3a_130_0 E0).toInt = u4 at *
  generalize (own_j3a_59_0 E0).toInt = l3 at *
  generalize (own_j3a_76_0 E0).toInt = u3 at *
  generalize x.toInt = X at *
  generalize c1.toInt = C1 at *
  generalize c2.toInt = C2 at *
  generalize c3.toInt = C3 at *
  generalize m.toInt = M at *
  by_cases g1 : X < 194
  · rw [if_pos g1, if_pos (Or.inl g1)]; decide
  rw [if_neg g1]
  by_cases g2 : 244 < X
  · rw [if_pos (by omega), if_pos (by omega), if_pos g2, if_pos (Or.inr (by omega))]; decide
  rw [if_neg (show ¬ (X < 194 ∨ 245 ≤ X) by omega)]
  by_cases g3 : 223 < X
  · rw [if_pos g3]
    by_cases g4 : 239 < X
    · have f := fc (by omega) (by omega) a0 a1
      clear fa fb fc lo3 hi3
      rw [if_pos g4, if_neg g2]
      rcases f with ⟨f1, ⟨f2, f3, f4⟩, f5, f6⟩ | ⟨f1, f2⟩
      · have ev : v1 = C1 := by clear w2 w3 lo4 hi4; omega
        rw [if_neg (show ¬ fi = 0 by omega), if_neg (show ¬ v1 < l4 by clear w1 w2 w3 hi4; omega), if_neg (show ¬ u4 < v1 by clear w1 w2 w3 lo4; omega), if_neg (show ¬ (192 ≤ X ∧ X < 224) by omega), if_neg (show ¬ (224 ≤ X ∧ X < 240) by omega)]
        clear w1 lo4 hi4 f1 f2 f3 f4 f5 f6 ev
        repeat' split
        all_goals first | decide | (exfalso; omega)
      · rw [if_pos f1]
        by_cases k : v1 < l4
        · rw [if_pos k]; decide
        · rw [if_neg k, if_pos (by clear w2 w3; omega)]; decide
    · have f := fb (by omega) (by omega) a0 a1
      clear fa fb fc lo4 hi4 w3
      rw [if_neg g4]
      rcases f with ⟨f1, ⟨f2, f3, f4⟩, f5, f6⟩ | ⟨f1, f2⟩
      · have ev : v1 = C1 := by clear w2 lo3 hi3; omega
        rw [if_neg (show ¬ fi = 0 by omega), if_neg (show ¬ v1 < l3 by clear w1 w2 hi3; omega), if_neg (show ¬ u3 < v1 by clear w1 w2 lo3; omega), if_neg (show ¬ (192 ≤ X ∧ X < 224) by omega), if_pos (show (224 ≤ X ∧ X < 240) by omega)]
        clear w1 lo3 hi3 f1 f2 f3 f4 f5 f6 ev
        repeat' split
        all_goals first | decide | (exfalso; omega)
      · rw [if_pos f1]
        by_cases k : v1 < l3
        · rw [if_pos k]; decide
        · rw [if_neg k, if_pos (by clear w2; omega)]; decide
  · have f := fa (by omega) (by omega) a0 a1
    clear fa fb fc lo4 hi4 lo3 hi3 w2 w3
    rw [if_neg g3, if_pos (show (192 ≤ X ∧ X < 224) by omega)]
    repeat' split
    all_goals first | decide | (exfalso; omega)

def Q0 (Z : State) (i1 : Int32) (i2 : Int32) (i3 : Int32) (i4 : Int32) (i5 : Int32) (i6 : Int32) (h0 : Heap) (n0 : Nat) (v : Option Value) (h : Heap) (L : List Loc) : Prop := v = some (.int (own_r0 i1 i2 i3 i4 i5 i6)) ∧ Fr n0 L
theorem ef_0 (m : MethodId) (x0 : Int32) (x1 : Int32) (x2 : Int32) (x3 : Int32) (x4 : Int32) (x5 : Int32) : entryFrame m #[(.int x0), (.int x1), (.int x2), (.int x3), (.int x4), (.int x5)] maxLocals = mkF m 0 #[.val (.int x0), .val (.int x1), .val (.int x2), .val (.int x3), .val (.int x4), .val (.int x5), .unset, .unset, .unset, .unset, .unset, .unset, .unset, .unset, .unset] [] := by first | (simp [entryFrame, mkF, argsToLocals, Value.category, maxLocals]; done) | rfl
set_option maxRecDepth 65536 in
set_option maxHeartbeats 40000000 in
theorem rm0 (l : Launch) (Z : State) (a0 : Array Value) (hw : ∀ d ∈ tables_1, d.before a0 Z = true) (ws : List Jvm.Cond) (i1 : Int32) (i2 : Int32) (i3 : Int32) (i4 : Int32) (i5 : Int32) (i6 : Int32) (h0 : Heap) (n0 : Nat) (Z0 : n0 ≤ h0.size) :
    MetFree l x (head1 (Jvm.Cond.code x code maxLocals ret :: ws) room_1) (fun a U => a = #[(.int i1), (.int i2), (.int i3), (.int i4), (.int i5), (.int i6)] ∧ Z.Warmed39 U.vm ∧ U.heap = h0) (fun _ _ _ _ _ => True) (fun _ U o U' => ∃ v L, o = .returned v ∧ Q0 Z i1 i2 i3 i4 i5 i6 h0 n0 v U'.heap L ∧ FrameEnd U o U' L room_1.cells room_1.slots) := by
  refine MetFree.of_bodySF (plainFor_of_name pn_0) hisR ?_
  intro p e s m args below meth c s₁ Bd hml0 hP hK
  obtain ⟨rfl, hZ, hh⟩ := hP
  have hx := Bd.exec
  have hby := Bd.bytes
  have hml : c.maxLocals = 15 := hml0
  have hown : s.vm.findClass "com/example/terseform/terseform/codec/CborTextStringUtf8SequenceEndPinLaw" = some m.cls := findClass_of_methodNamed Bd.named
  have hnm := (name_of_methodNamed Bd.named Bd.method).1
  have X0 : Stand p l e room_1 s m #[(.int i1), (.int i2), (.int i3), (.int i4), (.int i5), (.int i6)] below meth c s₁ [] 0 0 := Stand.of_body Bd
  have e0 : s₁.heap = h0 := by rw [← hh, Bd.state]; rfl
  have N0 := Fr.nil n0
  have pre0 : ∀ t, Steps p.tables e below (s₁.setTop (mkF m 0 #[.val (.int i1), .val (.int i2), .val (.int i3), .val (.int i4), .val (.int i5), .val (.int i6), .unset, .unset, .unset, .unset, .unset, .unset, .unset, .unset, .unset] [])) t → Steps p.tables e below (s₁.setTop (entryFrame m #[(.int i1), (.int i2), (.int i3), (.int i4), (.int i5), (.int i6)] maxLocals)) t := fun t k => castTop (ef_0 m i1 i2 i3 i4 i5 i6) k
  have pre1 : ∀ t, Steps p.tables e below (s₁.setTop (mkF m 6 #[.val (.int i1), .val (.int i2), .val (.int i3), .val (.int i4), .val (.int i5), .val (.int i6), .val (.int (i5 &&& (1 : Int32))), .unset, .unset, .unset, .unset, .unset, .unset, .unset, .unset] [])) t → Steps p.tables e below (s₁.setTop (entryFrame m #[(.int i1), (.int i2), (.int i3), (.int i4), (.int i5), (.int i6)] maxLocals)) t := by
    intro t k
    refine pre0 _ ?_
    show Steps p.tables e below (s₁.setTop (mkF m 0 #[.val (.int i1), .val (.int i2), .val (.int i3), .val (.int i4), .val (.int i5), .val (.int i6), .unset, .unset, .unset, .unset, .unset, .unset, .unset, .unset, .unset] [])) _
    refine XS.iload X0.here hx rfl (hb hby at_0) rfl ?_
    show Steps p.tables e below (s₁.setTop (mkF m 2 #[.val (.int i1), .val (.int i2), .val (.int i3), .val (.int i4), .val (.int i5), .val (.int i6), .unset, .unset, .unset, .unset, .unset, .unset, .unset, .unset, .unset] [(.int i5)])) _
    refine XS.iconst X0.here hx rfl (hb hby at_2) ?_
    show Steps p.tables e below (s₁.setTop (mkF m 3 #[.val (.int i1), .val (.int i2), .val (.int i3), .val (.int i4), .val (.int i5), .val (.int i6), .unset, .unset, .unset, .unset, .unset, .unset, .unset, .unset, .unset] [(.int (1 : Int32)), (.int i5)])) _
    refine XS.iand X0.here hx rfl (hb hby at_3) rfl ?_
    show Steps p.tables e below (s₁.setTop (mkF m 4 #[.val (.int i1), .val (.int i2), .val (.int i3), .val (.int i4), .val (.int i5), .val (.int i6), .unset, .unset, .unset, .unset, .unset, .unset, .unset, .unset, .unset] [(.int (i5 &&& (1 : Int32)))])) _
    refine XS.istore X0.here hx rfl (hb hby at_4) rfl (l' := #[.val (.int i1), .val (.int i2), .val (.int i3), .val (.int i4), .val (.int i5), .val (.int i6), .val (.int (i5 &&& (1 : Int32))), .unset, .unset, .unset, .unset, .unset, .unset, .unset, .unset]) rfl ?_
    exact k
  rcases ((own_ob0_at i5) : (i5 &&& (1 : Int32)) = (0 : Int32) ∨ (i5 &&& (1 : Int32)) = (1 : Int32)) with hk2 | hk2
  · have pre3 : ∀ t, Steps p.tables e below (s₁.setTop (mkF m 6 #[.val (.int i1), .val (.int i2), .val (.int i3), .val (.int i4), .val (.int i5), .val (.int i6), .val (.int (0 : Int32)), .unset, .unset, .unset, .unset, .unset, .unset, .unset, .unset] [])) t → Steps p.tables e below (s₁.setTop (entryFrame m #[(.int i1), (.int i2), (.int i3), (.int i4), (.int i5), (.int i6)] maxLocals)) t := fun t k => pre1 t (by rw [hk2]; exact k)
    obtain ⟨_, _, ⟨T4, L4, k4, n4⟩, -, X4, ⟨Lc4, hQ4, l4, y4, z4⟩, st4⟩ := Jvm.LawKit.callS X0 hx (y := (⟨"com/example/terseform/terseform/codec/CborTextStringUtf8SequenceEndPinLaw", "cont", "(I)I"⟩ : MethodName)) hown (mvT hZ (hw _ (List.mem_of_getElem? (i := 0) rfl))) (mvT hZ (hw _ (List.mem_of_getElem? (i := 1) rfl))) (mvT hZ (hw _ (List.mem_of_getElem? (i := 2) rfl))) (mvT hZ (hw _ (List.mem_of_getElem? (i := 3) rfl))) (by decide) (backOf (W := 0) (rm1 l Z a0 hw [] i2 h0 n0 (Nat.le_trans Z0 (Keep.refl h0 []).1) ) hZ (hw _ (List.mem_of_getElem? (i := 3) rfl)) (hw _ (List.mem_of_getElem? (i := 2) rfl)) (by decide) (by decide)) (g := (mkF m 17 #[.val (.int i1), .val (.int i2), .val (.int i3), .val (.int i4), .val (.int i5), .val (.int i6), .val (.int (0 : Int32)), .val (.int ((128 : Int32) ||| (i1 &&& (127 : Int32)))), .unset, .unset, .unset, .unset, .unset, .unset, .unset] [(.int i2)])) rfl (by rw [hml]; rfl) (argsL := [(.int i2)]) (rest := []) (lenOf pd_0 rfl) rfl (by show 2 * 0 + _ ≤ _; exact Nat.le_of_eq rfl) (hb hby at_17) (fun _ _ => ⟨rfl, e0, (by decide : 0 + 0 ≤ _), (by decide : 0 + 0 ≤ _)⟩)
    dsimp only [Pt.U, Pt.locs, Pt.cells, Pt.slots] at X4 l4 y4 z4 st4 hQ4
    subst l4 y4 z4
    obtain ⟨rfl, Nq4, e4⟩ := hQ4
    have N4 := Fr.app N0 Nq4
    obtain ⟨_, _, ⟨T5, L5, k5, n5⟩, -, X5, ⟨Lc5, hQ5, l5, y5, z5⟩, st5⟩ := Jvm.LawKit.callS X4 hx (y := (⟨"com/example/terseform/terseform/codec/CborTextStringUtf8SequenceEndPinLaw", "cont", "(I)I"⟩ : MethodName)) hown (mvT hZ (hw _ (List.mem_of_getElem? (i := 0) rfl))) (mvT hZ (hw _ (List.mem_of_getElem? (i := 1) rfl))) (mvT hZ (hw _ (List.mem_of_getElem? (i := 2) rfl))) (mvT hZ (hw _ (List.mem_of_getElem? (i := 3) rfl))) (by decide) (backOf (W := 0) (rm1 l Z a0 hw [] i3 h0 n0 (Nat.le_trans Z0 (Keep.refl h0 []).1) ) hZ (hw _ (List.mem_of_getElem? (i := 3) rfl)) (hw _ (List.mem_of_getElem? (i := 2) rfl)) (by decide) (by decide)) (g := (mkF m 23 #[.val (.int i1), .val (.int i2), .val (.int i3), .val (.int i4), .val (.int i5), .val (.int i6), .val (.int (0 : Int32)), .val (.int ((128 : Int32) ||| (i1 &&& (127 : Int32)))), .val (.int (own_j1_6_0 i2)), .unset, .unset, .unset, .unset, .unset, .unset] [(.int i3)])) rfl (by rw [hml]; rfl) (argsL := [(.int i3)]) (rest := []) (lenOf pd_0 rfl) rfl (by show 2 * 0 + _ ≤ _; exact Nat.le_of_eq rfl) (hb hby at_23) (fun _ _ => ⟨rfl, e4, (by decide : 0 + 0 ≤ _), (by decide : 0 + 0 ≤ _)⟩)
    dsimp only [Pt.U, Pt.locs, Pt.cells, Pt.slots] at X5 l5 y5 z5 st5 hQ5
    subst l5 y5 z5
    obtain ⟨rfl, Nq5, e5⟩ := hQ5
    have N5 := Fr.app N4 Nq5
    obtain ⟨_, _, ⟨T6, L6, k6, n6⟩, -, X6, ⟨Lc6, hQ6, l6, y6, z6⟩, st6⟩ := Jvm.LawKit.callS X5 hx (y := (⟨"com/example/terseform/terseform/codec/CborTextStringUtf8SequenceEndPinLaw", "cont", "(I)I"⟩ : MethodName)) hown (mvT hZ (hw _ (List.mem_of_getElem? (i := 0) rfl))) (mvT hZ (hw _ (List.mem_of_getElem? (i := 1) rfl))) (mvT hZ (hw _ (List.mem_of_getElem? (i := 2) rfl))) (mvT hZ (hw _ (List.mem_of_getElem? (i := 3) rfl))) (by decide) (backOf (W := 0) (rm1 l Z a0 hw [] i4 h0 n0 (Nat.le_trans Z0 (Keep.refl h0 []).1) ) hZ (hw _ (List.mem_of_getElem? (i := 3) rfl)) (hw _ (List.mem_of_getElem? (i := 2) rfl)) (by decide) (by decide)) (g := (mkF m 29 #[.val (.int i1), .val (.int i2), .val (.int i3), .val (.int i4), .val (.int i5), .val (.int i6), .val (.int (0 : Int32)), .val (.int ((128 : Int32) ||| (i1 &&& (127 : Int32)))), .val (.int (own_j1_6_0 i2)), .val (.int (own_j1_6_0 i3)), .unset, .unset, .unset, .unset, .unset] [(.int i4)])) rfl (by rw [hml]; rfl) (argsL := [(.int i4)]) (rest := []) (lenOf pd_0 rfl) rfl (by show 2 * 0 + _ ≤ _; exact Nat.le_of_eq rfl) (hb hby at_29) (fun _ _ => ⟨rfl, e5, (by decide : 0 + 0 ≤ _), (by decide : 0 + 0 ≤ _)⟩)
    dsimp only [Pt.U, Pt.locs, Pt.cells, Pt.slots] at X6 l6 y6 z6 st6 hQ6
    subst l6 y6 z6
    obtain ⟨rfl, Nq6, e6⟩ := hQ6
    have N6 := Fr.app N5 Nq6
    obtain ⟨T7, h7, k7, X7, e7, E7, A7, st7⟩ := newP X6 hx hZ (hw _ (List.mem_of_getElem? (i := 4) rfl)) e6 (g := (mkF m 44 #[.val (.int i1), .val (.int i2), .val (.int i3), .val (.int i4), .val (.int i5), .val (.int i6), .val (.int (0 : Int32)), .val (.int ((128 : Int32) ||| (i1 &&& (127 : Int32)))), .val (.int (own_j1_6_0 i2)), .val (.int (own_j1_6_0 i3)), .val (.int (own_j1_6_0 i4)), .val (.int (((i5.toUInt32 >>> ((8 : Int32) &&& 31).toUInt32).toInt32).toInt8.toInt32)), .unset, .unset, .unset] [(.int (6 : Int32))])) rfl (hb hby at_44) rfl (by decide) (cap := 6) (by decide) (by decide) (by decide) (by decide)
    obtain ⟨b7, g7⟩ : ∃ z, z = h0.size := ⟨_, rfl⟩
    rw [← g7] at A7 st7
    have sz_b7 : h0.size ≤ b7 := Nat.le_trans (Keep.refl h0 []).1 (Nat.le_of_eq g7.symm)
    have K8 : Keep h0 h7 [] := (Keep.refl h0 []).ext E7
    have V7 : Arv Z h7 b7 k7 .byte (6 : Int32) [(.int (0 : Int32)), (.int (0 : Int32)), (.int (0 : Int32)), (.int (0 : Int32)), (.int (0 : Int32)), (.int (0 : Int32))] (.int (0 : Int32)) := (Arv.new A7 (by decide)).pad (pad_rep [] (.int (0 : Int32)) 6)
    obtain ⟨cl9, Ar9, Cq9, Sz9, Nn9, Hh9, Gg9⟩ := id V7
    have hin9 : ¬ ((0 : Int32) < 0 ∨ cl9.slots.size ≤ ((0 : Int32)).toNatClampNeg) := inb_of Sz9 ⟨by decide, by decide⟩
    obtain ⟨T9, h9, X9, e9, W9, st9⟩ := stB X7 hx hZ e7 Ar9 (j := (0 : Int32)) hin9 (g := (mkF m 50 #[.val (.int i1), .val (.int i2), .val (.int i3), .val (.int i4), .val (.int i5), .val (.int i6), .val (.int (0 : Int32)), .val (.int ((128 : Int32) ||| (i1 &&& (127 : Int32)))), .val (.int (own_j1_6_0 i2)), .val (.int (own_j1_6_0 i3)), .val (.int (own_j1_6_0 i4)), .val (.int (((i5.toUInt32 >>> ((8 : Int32) &&& 31).toUInt32).toInt32).toInt8.toInt32)), .unset, .unset, .unset] [(.int (((i5.toUInt32 >>> ((8 : Int32) &&& 31).toUInt32).toInt32).toInt8.toInt32)), (.int (0 : Int32)), (.ref b7), (.ref b7)])) rfl rfl (hb hby at_50)
    have V9 : Arv Z h9 b7 k7 .byte (6 : Int32) [(.int (nar .byte (((i5.toUInt32 >>> ((8 : Int32) &&& 31).toUInt32).toInt32).toInt8.toInt32))), (.int (0 : Int32)), (.int (0 : Int32)), (.int (0 : Int32)), (.int (0 : Int32)), (.int (0 : Int32))] (.int (0 : Int32)) := Arv.set Ar9 Cq9 Sz9 Nn9 Hh9 Gg9 (fits_nar_byte _) W9 0 rfl (Nat.le_of_ble_eq_true rfl)
    have N9 := Fr.snoc X9 N6 (Nat.le_trans Z0 sz_b7)
    have K10 : Keep h0 h9 [] := K8.wr W9 (Or.inr sz_b7)
    obtain ⟨cl11, Ar11, Cq11, Sz11, Nn11, Hh11, Gg11⟩ := id V9
    have hin11 : ¬ ((1 : Int32) < 0 ∨ cl11.slots.size ≤ ((1 : Int32)).toNatClampNeg) := inb_of Sz11 ⟨by decide, by decide⟩
    obtain ⟨T11, h11, X11, e11, W11, st11⟩ := stB X9 hx hZ e9 Ar11 (j := (1 : Int32)) hin11 (g := (mkF m 55 #[.val (.int i1), .val (.int i2), .val (.int i3), .val (.int i4), .val (.int i5), .val (.int i6), .val (.int (0 : Int32)), .val (.int ((128 : Int32) ||| (i1 &&& (127 : Int32)))), .val (.int (own_j1_6_0 i2)), .val (.int (own_j1_6_0 i3)), .val (.int (own_j1_6_0 i4)), .val (.int (((i5.toUInt32 >>> ((8 : Int32) &&& 31).toUInt32).toInt32).toInt8.toInt32)), .unset, .unset, .unset] [(.int (((i5.toUInt32 >>> ((8 : Int32) &&& 31).toUInt32).toInt32).toInt8.toInt32)), (.int (1 : Int32)), (.ref b7), (.ref b7)])) rfl rfl (hb hby at_55)
    have V11 : Arv Z h11 b7 k7 .byte (6 : Int32) [(.int (nar .byte (((i5.toUInt32 >>> ((8 : Int32) &&& 31).toUInt32).toInt32).toInt8.toInt32))), (.int (nar .byte (((i5.toUInt32 >>> ((8 : Int32) &&& 31).toUInt32).toInt32).toInt8.toInt32))), (.int (0 : Int32)), (.int (0 : Int32)), (.int (0 : Int32)), (.int (0 : Int32))] (.int (0 : Int32)) := Arv.set Ar11 Cq11 Sz11 Nn11 Hh11 Gg11 (fits_nar_byte _) W11 1 rfl (Nat.le_of_ble_eq_true rfl)
    have N11 := Fr.snoc X11 N9 (Nat.le_trans Z0 sz_b7)
    have K12 : Keep h0 h11 [] := K10.wr W11 (Or.inr sz_b7)
    obtain ⟨cl13, Ar13, Cq13, Sz13, Nn13, Hh13, Gg13⟩ := id V11
    have hin13 : ¬ ((2 : Int32) < 0 ∨ cl13.slots.size ≤ ((2 : Int32)).toNatClampNeg) := inb_of Sz13 ⟨by decide, by decide⟩
    obtain ⟨T13, h13, X13, e13, W13, st13⟩ := stB X11 hx hZ e11 Ar13 (j := (2 : Int32)) hin13 (g := (mkF m 60 #[.val (.int i1), .val (.int i2), .val (.int i3), .val (.int i4), .val (.int i5), .val (.int i6), .val (.int (0 : Int32)), .val (.int ((128 : Int32) ||| (i1 &&& (127 : Int32)))), .val (.int (own_j1_6_0 i2)), .val (.int (own_j1_6_0 i3)), .val (.int (own_j1_6_0 i4)), .val (.int (((i5.toUInt32 >>> ((8 : Int32) &&& 31).toUInt32).toInt32).toInt8.toInt32)), .unset, .unset, .unset] [(.int (((i5.toUInt32 >>> ((8 : Int32) &&& 31).toUInt32).toInt32).toInt8.toInt32)), (.int (2 : Int32)), (.ref b7), (.ref b7)])) rfl rfl (hb hby at_60)
    have V13 : Arv Z h13 b7 k7 .byte (6 : Int32) [(.int (nar .byte (((i5.toUInt32 >>> ((8 : Int32) &&& 31).toUInt32).toInt32).toInt8.toInt32))), (.int (nar .byte (((i5.toUInt32 >>> ((8 : Int32) &&& 31).toUInt32).toInt32).toInt8.toInt32))), (.int (nar .byte (((i5.toUInt32 >>> ((8 : Int32) &&& 31).toUInt32).toInt32).toInt8.toInt32))), (.int (0 : Int32)), (.int (0 : Int32)), (.int (0 : Int32))] (.int (0 : Int32)) := Arv.set Ar13 Cq13 Sz13 Nn13 Hh13 Gg13 (fits_nar_byte _) W13 2 rfl (Nat.le_of_ble_eq_true rfl)
    have N13 := Fr.snoc X13 N11 (Nat.le_trans Z0 sz_b7)
    have K14 : Keep h0 h13 [] := K12.wr W13 (Or.inr sz_b7)
    obtain ⟨cl15, Ar15, Cq15, Sz15, Nn15, Hh15, Gg15⟩ := id V13
    have hin15 : ¬ ((3 : Int32) < 0 ∨ cl15.slots.size ≤ ((3 : Int32)).toNatClampNeg) := inb_of Sz15 ⟨by decide, by decide⟩
    obtain ⟨T15, h15, X15, e15, W15, st15⟩ := stB X13 hx hZ e13 Ar15 (j := (3 : Int32)) hin15 (g := (mkF m 65 #[.val (.int i1), .val (.int i2), .val (.int i3), .val (.int i4), .val (.int i5), .val (.int i6), .val (.int (0 : Int32)), .val (.int ((128 : Int32) ||| (i1 &&& (127 : Int32)))), .val (.int (own_j1_6_0 i2)), .val (.int (own_j1_6_0 i3)), .val (.int (own_j1_6_0 i4)), .val (.int (((i5.toUInt32 >>> ((8 : Int32) &&& 31).toUInt32).toInt32).toInt8.toInt32)), .unset, .unset, .unset] [(.int (((i5.toUInt32 >>> ((8 : Int32) &&& 31).toUInt32).toInt32).toInt8.toInt32)), (.int (3 : Int32)), (.ref b7), (.ref b7)])) rfl rfl (hb hby at_65)
    have V15 : Arv Z h15 b7 k7 .byte (6 : Int32) [(.int (nar .byte (((i5.toUInt32 >>> ((8 : Int32) &&& 31).toUInt32).toInt32).toInt8.toInt32))), (.int (nar .byte (((i5.toUInt32 >>> ((8 : Int32) &&& 31).toUInt32).toInt32).toInt8.toInt32))), (.int (nar .byte (((i5.toUInt32 >>> ((8 : Int32) &&& 31).toUInt32).toInt32).toInt8.toInt32))), (.int (nar .byte (((i5.toUInt32 >>> ((8 : Int32) &&& 31).toUInt32).toInt32).toInt8.toInt32))), (.int (0 : Int32)), (.int (0 : Int32))] (.int (0 : Int32)) := Arv.set Ar15 Cq15 Sz15 Nn15 Hh15 Gg15 (fits_nar_byte _) W15 3 rfl (Nat.le_of_ble_eq_true rfl)
    have N15 := Fr.snoc X15 N13 (Nat.le_trans Z0 sz_b7)
    have K16 : Keep h0 h15 [] := K14.wr W15 (Or.inr sz_b7)
    obtain ⟨cl17, Ar17, Cq17, Sz17, Nn17, Hh17, Gg17⟩ := id V15
    have hin17 : ¬ ((4 : Int32) < 0 ∨ cl17.slots.size ≤ ((4 : Int32)).toNatClampNeg) := inb_of Sz17 ⟨by decide, by decide⟩
    obtain ⟨T17, h17, X17, e17, W17, st17⟩ := stB X15 hx hZ e15 Ar17 (j := (4 : Int32)) hin17 (g := (mkF m 70 #[.val (.int i1), .val (.int i2), .val (.int i3), .val (.int i4), .val (.int i5), .val (.int i6), .val (.int (0 : Int32)), .val (.int ((128 : Int32) ||| (i1 &&& (127 : Int32)))), .val (.int (own_j1_6_0 i2)), .val (.int (own_j1_6_0 i3)), .val (.int (own_j1_6_0 i4)), .val (.int (((i5.toUInt32 >>> ((8 : Int32) &&& 31).toUInt32).toInt32).toInt8.toInt32)), .unset, .unset, .unset] [(.int (((i5.toUInt32 >>> ((8 : Int32) &&& 31).toUInt32).toInt32).toInt8.toInt32)), (.int (4 : Int32)), (.ref b7), (.ref b7)])) rfl rfl (hb hby at_70)
    have V17 : Arv Z h17 b7 k7 .byte (6 : Int32) [(.int (nar .byte (((i5.toUInt32 >>> ((8 : Int32) &&& 31).toUInt32).toInt32).toInt8.toInt32))), (.int (nar .byte (((i5.toUInt32 >>> ((8 : Int32) &&& 31).toUInt32).toInt32).toInt8.toInt32))), (.int (nar .byte (((i5.toUInt32 >>> ((8 : Int32) &&& 31).toUInt32).toInt32).toInt8.toInt32))), (.int (nar .byte (((i5.toUInt32 >>> ((8 : Int32) &&& 31).toUInt32).toInt32).toInt8.toInt32))), (.int (nar .byte (((i5.toUInt32 >>> ((8 : Int32) &&& 31).toUInt32).toInt32).toInt8.toInt32))), (.int (0 : Int32))] (.int (0 : Int32)) := Arv.set Ar17 Cq17 Sz17 Nn17 Hh17 Gg17 (fits_nar_byte _) W17 4 rfl (Nat.le_of_ble_eq_true rfl)
    have N17 := Fr.snoc X17 N15 (Nat.le_trans Z0 sz_b7)
    have K18 : Keep h0 h17 [] := K16.wr W17 (Or.inr sz_b7)
    obtain ⟨cl19, Ar19, Cq19, Sz19, Nn19, Hh19, Gg19⟩ := id V17
    have hin19 : ¬ ((5 : Int32) < 0 ∨ cl19.slots.size ≤ ((5 : Int32)).toNatClampNeg) := inb_of Sz19 ⟨by decide, by decide⟩
    obtain ⟨T19, h19, X19, e19, W19, st19⟩ := stB X17 hx hZ e17 Ar19 (j := (5 : Int32)) hin19 (g := (mkF m 75 #[.val (.int i1), .val (.int i2), .val (.int i3), .val (.int i4), .val (.int i5), .val (.int i6), .val (.int (0 : Int32)), .val (.int ((128 : Int32) ||| (i1 &&& (127 : Int32)))), .val (.int (own_j1_6_0 i2)), .val (.int (own_j1_6_0 i3)), .val (.int (own_j1_6_0 i4)), .val (.int (((i5.toUInt32 >>> ((8 : Int32) &&& 31).toUInt32).toInt32).toInt8.toInt32)), .unset, .unset, .unset] [(.int (((i5.toUInt32 >>> ((8 : Int32) &&& 31).toUInt32).toInt32).toInt8.toInt32)), (.int (5 : Int32)), (.ref b7), (.ref b7)])) rfl rfl (hb hby at_75)
    have V19 : Arv Z h19 b7 k7 .byte (6 : Int32) [(.int (nar .byte (((i5.toUInt32 >>> ((8 : Int32) &&& 31).toUInt32).toInt32).toInt8.toInt32))), (.int (nar .byte (((i5.toUInt32 >>> ((8 : Int32) &&& 31).toUInt32).toInt32).toInt8.toInt32))), (.int (nar .byte (((i5.toUInt32 >>> ((8 : Int32) &&& 31).toUInt32).toInt32).toInt8.toInt32))), (.int (nar .byte (((i5.toUInt32 >>> ((8 : Int32) &&& 31).toUInt32).toInt32).toInt8.toInt32))), (.int (nar .byte (((i5.toUInt32 >>> ((8 : Int32) &&& 31).toUInt32).toInt32).toInt8.toInt32))), (.int (nar .byte (((i5.toUInt32 >>> ((8 : Int32) &&& 31).toUInt32).toInt32).toInt8.toInt32)))] (.int (0 : Int32)) := Arv.set Ar19 Cq19 Sz19 Nn19 Hh19 Gg19 (fits_nar_byte _) W19 5 rfl (Nat.le_of_ble_eq_true rfl)
    have N19 := Fr.snoc X19 N17 (Nat.le_trans Z0 sz_b7)
    have K20 : Keep h0 h19 [] := K18.wr W19 (Or.inr sz_b7)
    obtain ⟨cl21, Ar21, Cq21, Sz21, Nn21, Hh21, Gg21⟩ := id V19
    have hin21 : ¬ ((0 : Int32) < 0 ∨ cl21.slots.size ≤ ((0 : Int32)).toNatClampNeg) := inb_of Sz21 ⟨by decide, by decide⟩
    obtain ⟨T21, h21, X21, e21, W21, st21⟩ := stB X19 hx hZ e19 Ar21 (j := (0 : Int32)) hin21 (g := (mkF m 85 #[.val (.int i1), .val (.int i2), .val (.int i3), .val (.int i4), .val (.int i5), .val (.int i6), .val (.int (0 : Int32)), .val (.int ((128 : Int32) ||| (i1 &&& (127 : Int32)))), .val (.int (own_j1_6_0 i2)), .val (.int (own_j1_6_0 i3)), .val (.int (own_j1_6_0 i4)), .val (.int (((i5.toUInt32 >>> ((8 : Int32) &&& 31).toUInt32).toInt32).toInt8.toInt32)), .val (.ref b7), .unset, .unset] [(.int (((128 : Int32) ||| (i1 &&& (127 : Int32))).toInt8.toInt32)), (.int (0 : Int32)), (.ref b7)])) rfl rfl (hb hby at_85)
    have V21 : Arv Z h21 b7 k7 .byte (6 : Int32) [(.int (nar .byte (((128 : Int32) ||| (i1 &&& (127 : Int32))).toInt8.toInt32))), (.int (nar .byte (((i5.toUInt32 >>> ((8 : Int32) &&& 31).toUInt32).toInt32).toInt8.toInt32))), (.int (nar .byte (((i5.toUInt32 >>> ((8 : Int32) &&& 31).toUInt32).toInt32).toInt8.toInt32))), (.int (nar .byte (((i5.toUInt32 >>> ((8 : Int32) &&& 31).toUInt32).toInt32).toInt8.toInt32))), (.int (nar .byte (((i5.toUInt32 >>> ((8 : Int32) &&& 31).toUInt32).toInt32).toInt8.toInt32))), (.int (nar .byte (((i5.toUInt32 >>> ((8 : Int32) &&& 31).toUInt32).toInt32).toInt8.toInt32)))] (.int (0 : Int32)) := Arv.set Ar21 Cq21 Sz21 Nn21 Hh21 Gg21 (fits_nar_byte _) W21 0 rfl (Nat.le_of_ble_eq_true rfl)
    have N21 := Fr.snoc X21 N19 (Nat.le_trans Z0 sz_b7)
    have K22 : Keep h0 h21 [] := K20.wr W21 (Or.inr sz_b7)
    obtain ⟨cl23, Ar23, Cq23, Sz23, Nn23, Hh23, Gg23⟩ := id V21
    have hin23 : ¬ ((1 : Int32) < 0 ∨ cl23.slots.size ≤ ((1 : Int32)).toNatClampNeg) := inb_of Sz23 ⟨by decide, by decide⟩
    obtain ⟨T23, h23, X23, e23, W23, st23⟩ := stB X21 hx hZ e21 Ar23 (j := (1 : Int32)) hin23 (g := (mkF m 95 #[.val (.int i1), .val (.int i2), .val (.int i3), .val (.int i4), .val (.int i5), .val (.int i6), .val (.int (0 : Int32)), .val (.int ((128 : Int32) ||| (i1 &&& (127 : Int32)))), .val (.int (own_j1_6_0 i2)), .val (.int (own_j1_6_0 i3)), .val (.int (own_j1_6_0 i4)), .val (.int (((i5.toUInt32 >>> ((8 : Int32) &&& 31).toUInt32).toInt32).toInt8.toInt32)), .val (.ref b7), .unset, .unset] [(.int ((own_j1_6_0 i2).toInt8.toInt32)), (.int (1 : Int32)), (.ref b7)])) rfl rfl (hb hby at_95)
    have V23 : Arv Z h23 b7 k7 .byte (6 : Int32) [(.int (nar .byte (((128 : Int32) ||| (i1 &&& (127 : Int32))).toInt8.toInt32))), (.int (nar .byte ((own_j1_6_0 i2).toInt8.toInt32))), (.int (nar .byte (((i5.toUInt32 >>> ((8 : Int32) &&& 31).toUInt32).toInt32).toInt8.toInt32))), (.int (nar .byte (((i5.toUInt32 >>> ((8 : Int32) &&& 31).toUInt32).toInt32).toInt8.toInt32))), (.int (nar .byte (((i5.toUInt32 >>> ((8 : Int32) &&& 31).toUInt32).toInt32).toInt8.toInt32))), (.int (nar .byte (((i5.toUInt32 >>> ((8 : Int32) &&& 31).toUInt32).toInt32).toInt8.toInt32)))] (.int (0 : Int32)) := Arv.set Ar23 Cq23 Sz23 Nn23 Hh23 Gg23 (fits_nar_byte _) W23 1 rfl (Nat.le_of_ble_eq_true rfl)
    have N23 := Fr.snoc X23 N21 (Nat.le_trans Z0 sz_b7)
    have K24 : Keep h0 h23 [] := K22.wr W23 (Or.inr sz_b7)
    obtain ⟨cl25, Ar25, Cq25, Sz25, Nn25, Hh25, Gg25⟩ := id V23
    have hin25 : ¬ ((2 : Int32) < 0 ∨ cl25.slots.size ≤ ((2 : Int32)).toNatClampNeg) := inb_of Sz25 ⟨by decide, by decide⟩
    obtain ⟨T25, h25, X25, e25, W25, st25⟩ := stB X23 hx hZ e23 Ar25 (j := (2 : Int32)) hin25 (g := (mkF m 105 #[.val (.int i1), .val (.int i2), .val (.int i3), .val (.int i4), .val (.int i5), .val (.int i6), .val (.int (0 : Int32)), .val (.int ((128 : Int32) ||| (i1 &&& (127 : Int32)))), .val (.int (own_j1_6_0 i2)), .val (.int (own_j1_6_0 i3)), .val (.int (own_j1_6_0 i4)), .val (.int (((i5.toUInt32 >>> ((8 : Int32) &&& 31).toUInt32).toInt32).toInt8.toInt32)), .val (.ref b7), .unset, .unset] [(.int ((own_j1_6_0 i3).toInt8.toInt32)), (.int (2 : Int32)), (.ref b7)])) rfl rfl (hb hby at_105)
    have V25 : Arv Z h25 b7 k7 .byte (6 : Int32) [(.int (nar .byte (((128 : Int32) ||| (i1 &&& (127 : Int32))).toInt8.toInt32))), (.int (nar .byte ((own_j1_6_0 i2).toInt8.toInt32))), (.int (nar .byte ((own_j1_6_0 i3).toInt8.toInt32))), (.int (nar .byte (((i5.toUInt32 >>> ((8 : Int32) &&& 31).toUInt32).toInt32).toInt8.toInt32))), (.int (nar .byte (((i5.toUInt32 >>> ((8 : Int32) &&& 31).toUInt32).toInt32).toInt8.toInt32))), (.int (nar .byte (((i5.toUInt32 >>> ((8 : Int32) &&& 31).toUInt32).toInt32).toInt8.toInt32)))] (.int (0 : Int32)) := Arv.set Ar25 Cq25 Sz25 Nn25 Hh25 Gg25 (fits_nar_byte _) W25 2 rfl (Nat.le_of_ble_eq_true rfl)
    have N25 := Fr.snoc X25 N23 (Nat.le_trans Z0 sz_b7)
    have K26 : Keep h0 h25 [] := K24.wr W25 (Or.inr sz_b7)
    obtain ⟨cl27, Ar27, Cq27, Sz27, Nn27, Hh27, Gg27⟩ := id V25
    have hin27 : ¬ ((3 : Int32) < 0 ∨ cl27.slots.size ≤ ((3 : Int32)).toNatClampNeg) := inb_of Sz27 ⟨by decide, by decide⟩
    obtain ⟨T27, h27, X27, e27, W27, st27⟩ := stB X25 hx hZ e25 Ar27 (j := (3 : Int32)) hin27 (g := (mkF m 115 #[.val (.int i1), .val (.int i2), .val (.int i3), .val (.int i4), .val (.int i5), .val (.int i6), .val (.int (0 : Int32)), .val (.int ((128 : Int32) ||| (i1 &&& (127 : Int32)))), .val (.int (own_j1_6_0 i2)), .val (.int (own_j1_6_0 i3)), .val (.int (own_j1_6_0 i4)), .val (.int (((i5.toUInt32 >>> ((8 : Int32) &&& 31).toUInt32).toInt32).toInt8.toInt32)), .val (.ref b7), .unset, .unset] [(.int ((own_j1_6_0 i4).toInt8.toInt32)), (.int (3 : Int32)), (.ref b7)])) rfl rfl (hb hby at_115)
    have V27 : Arv Z h27 b7 k7 .byte (6 : Int32) [(.int (nar .byte (((128 : Int32) ||| (i1 &&& (127 : Int32))).toInt8.toInt32))), (.int (nar .byte ((own_j1_6_0 i2).toInt8.toInt32))), (.int (nar .byte ((own_j1_6_0 i3).toInt8.toInt32))), (.int (nar .byte ((own_j1_6_0 i4).toInt8.toInt32))), (.int (nar .byte (((i5.toUInt32 >>> ((8 : Int32) &&& 31).toUInt32).toInt32).toInt8.toInt32))), (.int (nar .byte (((i5.toUInt32 >>> ((8 : Int32) &&& 31).toUInt32).toInt32).toInt8.toInt32)))] (.int (0 : Int32)) := Arv.set Ar27 Cq27 Sz27 Nn27 Hh27 Gg27 (fits_nar_byte _) W27 3 rfl (Nat.le_of_ble_eq_true rfl)
    have N27 := Fr.snoc X27 N25 (Nat.le_trans Z0 sz_b7)
    have K28 : Keep h0 h27 [] := K26.wr W27 (Or.inr sz_b7)
    obtain ⟨_, _, ⟨T29, L29, k29, n29⟩, -, X29, ⟨Lc29, hQ29, l29, y29, z29⟩, st29⟩ := Jvm.LawKit.callS X27 hx (y := (⟨"com/example/terseform/terseform/codec/CborTextStringUtf8SequenceEndPinLaw", "expected", "(IIIIII)I"⟩ : MethodName)) hown (mvT hZ (hw _ (List.mem_of_getElem? (i := 6) rfl))) (mvT hZ (hw _ (List.mem_of_getElem? (i := 7) rfl))) (mvT hZ (hw _ (List.mem_of_getElem? (i := 2) rfl))) (mvT hZ (hw _ (List.mem_of_getElem? (i := 8) rfl))) (by decide) (backOf (W := 0) (rm2 l Z a0 hw [] (0 : Int32) ((1 : Int32) + ((i6 &&& (2147483647 : Int32)) % (6 : Int32))) ((128 : Int32) ||| (i1 &&& (127 : Int32))) (own_j1_6_0 i2) (own_j1_6_0 i3) (own_j1_6_0 i4) h27 n0 (Nat.le_trans Z0 K28.1) ) hZ (hw _ (List.mem_of_getElem? (i := 8) rfl)) (hw _ (List.mem_of_getElem? (i := 2) rfl)) (by decide) (by decide)) (g := (mkF m 146 #[.val (.int i1), .val (.int i2), .val (.int i3), .val (.int i4), .val (.int i5), .val (.int i6), .val (.int (0 : Int32)), .val (.int ((128 : Int32) ||| (i1 &&& (127 : Int32)))), .val (.int (own_j1_6_0 i2)), .val (.int (own_j1_6_0 i3)), .val (.int (own_j1_6_0 i4)), .val (.int (((i5.toUInt32 >>> ((8 : Int32) &&& 31).toUInt32).toInt32).toInt8.toInt32)), .val (.ref b7), .val (.int ((1 : Int32) + ((i6 &&& (2147483647 : Int32)) % (6 : Int32)))), .unset] [(.int (own_j1_6_0 i4)), (.int (own_j1_6_0 i3)), (.int (own_j1_6_0 i2)), (.int ((128 : Int32) ||| (i1 &&& (127 : Int32)))), (.int ((1 : Int32) + ((i6 &&& (2147483647 : Int32)) % (6 : Int32)))), (.int (0 : Int32))])) rfl (by rw [hml]; rfl) (argsL := [(.int (0 : Int32)), (.int ((1 : Int32) + ((i6 &&& (2147483647 : Int32)) % (6 : Int32)))), (.int ((128 : Int32) ||| (i1 &&& (127 : Int32)))), (.int (own_j1_6_0 i2)), (.int (own_j1_6_0 i3)), (.int (own_j1_6_0 i4))]) (rest := []) (lenOf pd_1 rfl) rfl (by show 2 * 0 + _ ≤ _; exact Nat.le_of_eq rfl) (hb hby at_146) (fun _ _ => ⟨rfl, e27, (by decide : 1 + 0 ≤ _), (by decide : 6 + 0 ≤ _)⟩)
    dsimp only [Pt.U, Pt.locs, Pt.cells, Pt.slots] at X29 l29 y29 z29 st29 hQ29
    subst l29 y29 z29
    obtain ⟨rfl, Nq29, e29⟩ := hQ29
    have N29 := Fr.app N27 Nq29
    obtain ⟨_, _, ⟨T30, L30, k30, n30⟩, -, X30, ⟨Lc30, hQ30, l30, y30, z30⟩, st30⟩ := Jvm.LawKit.callS X29 hx (y := (⟨"com/example/terseform/terseform/codec/CborTextString", "utf8SequenceEnd", "([BII)I"⟩ : MethodName)) hown (mvT hZ (hw _ (List.mem_of_getElem? (i := 9) rfl))) (mvT hZ (hw _ (List.mem_of_getElem? (i := 10) rfl))) (mvT hZ (hw _ (List.mem_of_getElem? (i := 11) rfl))) (mvT hZ (hw _ (List.mem_of_getElem? (i := 12) rfl))) (by decide) (backOf (W := 0) (rm3 l Z a0 hw [] b7 ((1 : Int32) + ((i6 &&& (2147483647 : Int32)) % (6 : Int32))) (nar .byte (((128 : Int32) ||| (i1 &&& (127 : Int32))).toInt8.toInt32)) (nar .byte ((own_j1_6_0 i2).toInt8.toInt32)) (nar .byte ((own_j1_6_0 i3).toInt8.toInt32)) (nar .byte ((own_j1_6_0 i4).toInt8.toInt32)) (nar .byte (((i5.toUInt32 >>> ((8 : Int32) &&& 31).toUInt32).toInt32).toInt8.toInt32)) (nar .byte (((i5.toUInt32 >>> ((8 : Int32) &&& 31).toUInt32).toInt32).toInt8.toInt32)) k7 h27 n0 (Nat.le_trans Z0 K28.1) V27) hZ (hw _ (List.mem_of_getElem? (i := 12) rfl)) (hw _ (List.mem_of_getElem? (i := 11) rfl)) (by decide) (by decide)) (g := (mkF m 157 #[.val (.int i1), .val (.int i2), .val (.int i3), .val (.int i4), .val (.int i5), .val (.int i6), .val (.int (0 : Int32)), .val (.int ((128 : Int32) ||| (i1 &&& (127 : Int32)))), .val (.int (own_j1_6_0 i2)), .val (.int (own_j1_6_0 i3)), .val (.int (own_j1_6_0 i4)), .val (.int (((i5.toUInt32 >>> ((8 : Int32) &&& 31).toUInt32).toInt32).toInt8.toInt32)), .val (.ref b7), .val (.int ((1 : Int32) + ((i6 &&& (2147483647 : Int32)) % (6 : Int32)))), .val (.int (own_r2 (0 : Int32) ((1 : Int32) + ((i6 &&& (2147483647 : Int32)) % (6 : Int32))) ((128 : Int32) ||| (i1 &&& (127 : Int32))) (own_j1_6_0 i2) (own_j1_6_0 i3) (own_j1_6_0 i4)))] [(.int ((1 : Int32) + ((i6 &&& (2147483647 : Int32)) % (6 : Int32)))), (.int (0 : Int32)), (.ref b7)])) rfl (by rw [hml]; rfl) (argsL := [(.ref b7), (.int (0 : Int32)), (.int ((1 : Int32) + ((i6 &&& (2147483647 : Int32)) % (6 : Int32))))]) (rest := []) (lenOf pd_2 rfl) rfl (by show 2 * 0 + _ ≤ _; exact Nat.le_of_eq rfl) (hb hby at_157) (fun _ _ => ⟨rfl, e29, (by decide : 1 + 0 ≤ _), (by decide : 6 + 0 ≤ _)⟩)
    dsimp only [Pt.U, Pt.locs, Pt.cells, Pt.slots] at X30 l30 y30 z30 st30 hQ30
    subst l30 y30 z30
    obtain ⟨rfl, Nq30, e30⟩ := hQ30
    have N30 := Fr.app N29 Nq30
    have pre31 : ∀ t, Steps p.tables e below (T30.setTop (mkF m 162 #[.val (.int i1), .val (.int i2), .val (.int i3), .val (.int i4), .val (.int i5), .val (.int i6), .val (.int (0 : Int32)), .val (.int ((128 : Int32) ||| (i1 &&& (127 : Int32)))), .val (.int (own_j1_6_0 i2)), .val (.int (own_j1_6_0 i3)), .val (.int (own_j1_6_0 i4)), .val (.int (((i5.toUInt32 >>> ((8 : Int32) &&& 31).toUInt32).toInt32).toInt8.toInt32)), .val (.ref b7), .val (.int ((1 : Int32) + ((i6 &&& (2147483647 : Int32)) % (6 : Int32)))), .val (.int (own_r2 (0 : Int32) ((1 : Int32) + ((i6 &&& (2147483647 : Int32)) % (6 : Int32))) ((128 : Int32) ||| (i1 &&& (127 : Int32))) (own_j1_6_0 i2) (own_j1_6_0 i3) (own_j1_6_0 i4)))] [(.int (own_r2 (0 : Int32) ((1 : Int32) + ((i6 &&& (2147483647 : Int32)) % (6 : Int32))) ((128 : Int32) ||| (i1 &&& (127 : Int32))) (own_j1_6_0 i2) (own_j1_6_0 i3) (own_j1_6_0 i4))), (.int (own_r3 ((1 : Int32) + ((i6 &&& (2147483647 : Int32)) % (6 : Int32))) (nar .byte (((128 : Int32) ||| (i1 &&& (127 : Int32))).toInt8.toInt32)) (nar .byte ((own_j1_6_0 i2).toInt8.toInt32)) (nar .byte ((own_j1_6_0 i3).toInt8.toInt32)) (nar .byte ((own_j1_6_0 i4).toInt8.toInt32))))])) t → Steps p.tables e below (s₁.setTop (entryFrame m #[(.int i1), (.int i2), (.int i3), (.int i4), (.int i5), (.int i6)] maxLocals)) t := by
      intro t k
      refine pre3 _ ?_
      show Steps p.tables e below (s₁.setTop (mkF m 6 #[.val (.int i1), .val (.int i2), .val (.int i3), .val (.int i4), .val (.int i5), .val (.int i6), .val (.int (0 : Int32)), .unset, .unset, .unset, .unset, .unset, .unset, .unset, .unset] [])) _
      refine XS.sipush X0.here hx rfl (hb hby at_6) ?_
      show Steps p.tables e below (s₁.setTop (mkF m 9 #[.val (.int i1), .val (.int i2), .val (.int i3), .val (.int i4), .val (.int i5), .val (.int i6), .val (.int (0 : Int32)), .unset, .unset, .unset, .unset, .unset, .unset, .unset, .unset] [(.int (128 : Int32))])) _
      refine XS.iloadN X0.here hx rfl (hb hby at_9) rfl ?_
      show Steps p.tables e below (s₁.setTop (mkF m 10 #[.val (.int i1), .val (.int i2), .val (.int i3), .val (.int i4), .val (.int i5), .val (.int i6), .val (.int (0 : Int32)), .unset, .unset, .unset, .unset, .unset, .unset, .unset, .unset] [(.int i1), (.int (128 : Int32))])) _
      refine XS.bipush X0.here hx rfl (hb hby at_10) ?_
      show Steps p.tables e below (s₁.setTop (mkF m 12 #[.val (.int i1), .val (.int i2), .val (.int i3), .val (.int i4), .val (.int i5), .val (.int i6), .val (.int (0 : Int32)), .unset, .unset, .unset, .unset, .unset, .unset, .unset, .unset] [(.int (127 : Int32)), (.int i1), (.int (128 : Int32))])) _
      refine XS.iand X0.here hx rfl (hb hby at_12) rfl ?_
      show Steps p.tables e below (s₁.setTop (mkF m 13 #[.val (.int i1), .val (.int i2), .val (.int i3), .val (.int i4), .val (.int i5), .val (.int i6), .val (.int (0 : Int32)), .unset, .unset, .unset, .unset, .unset, .unset, .unset, .unset] [(.int (i1 &&& (127 : Int32))), (.int (128 : Int32))])) _
      refine XS.ior X0.here hx rfl (hb hby at_13) rfl ?_
      show Steps p.tables e below (s₁.setTop (mkF m 14 #[.val (.int i1), .val (.int i2), .val (.int i3), .val (.int i4), .val (.int i5), .val (.int i6), .val (.int (0 : Int32)), .unset, .unset, .unset, .unset, .unset, .unset, .unset, .unset] [(.int ((128 : Int32) ||| (i1 &&& (127 : Int32))))])) _
      refine XS.istore X0.here hx rfl (hb hby at_14) rfl (l' := #[.val (.int i1), .val (.int i2), .val (.int i3), .val (.int i4), .val (.int i5), .val (.int i6), .val (.int (0 : Int32)), .val (.int ((128 : Int32) ||| (i1 &&& (127 : Int32)))), .unset, .unset, .unset, .unset, .unset, .unset, .unset]) rfl ?_
      show Steps p.tables e below (s₁.setTop (mkF m 16 #[.val (.int i1), .val (.int i2), .val (.int i3), .val (.int i4), .val (.int i5), .val (.int i6), .val (.int (0 : Int32)), .val (.int ((128 : Int32) ||| (i1 &&& (127 : Int32)))), .unset, .unset, .unset, .unset, .unset, .unset, .unset] [])) _
      refine XS.iloadN X0.here hx rfl (hb hby at_16) rfl ?_
      show Steps p.tables e below (s₁.setTop (mkF m 17 #[.val (.int i1), .val (.int i2), .val (.int i3), .val (.int i4), .val (.int i5), .val (.int i6), .val (.int (0 : Int32)), .val (.int ((128 : Int32) ||| (i1 &&& (127 : Int32)))), .unset, .unset, .unset, .unset, .unset, .unset, .unset] [(.int i2)])) _
      refine st4 _ ?_
      show Steps p.tables e below (T4.setTop (mkF m 20 #[.val (.int i1), .val (.int i2), .val (.int i3), .val (.int i4), .val (.int i5), .val (.int i6), .val (.int (0 : Int32)), .val (.int ((128 : Int32) ||| (i1 &&& (127 : Int32)))), .unset, .unset, .unset, .unset, .unset, .unset, .unset] [(.int (own_j1_6_0 i2))])) _
      refine XS.istore X4.here hx rfl (hb hby at_20) rfl (l' := #[.val (.int i1), .val (.int i2), .val (.int i3), .val (.int i4), .val (.int i5), .val (.int i6), .val (.int (0 : Int32)), .val (.int ((128 : Int32) ||| (i1 &&& (127 : Int32)))), .val (.int (own_j1_6_0 i2)), .unset, .unset, .unset, .unset, .unset, .unset]) rfl ?_
      show Steps p.tables e below (T4.setTop (mkF m 22 #[.val (.int i1), .val (.int i2), .val (.int i3), .val (.int i4), .val (.int i5), .val (.int i6), .val (.int (0 : Int32)), .val (.int ((128 : Int32) ||| (i1 &&& (127 : Int32)))), .val (.int (own_j1_6_0 i2)), .unset, .unset, .unset, .unset, .unset, .unset] [])) _
      refine XS.iloadN X4.here hx rfl (hb hby at_22) rfl ?_
      show Steps p.tables e below (T4.setTop (mkF m 23 #[.val (.int i1), .val (.int i2), .val (.int i3), .val (.int i4), .val (.int i5), .val (.int i6), .val (.int (0 : Int32)), .val (.int ((128 : Int32) ||| (i1 &&& (127 : Int32)))), .val (.int (own_j1_6_0 i2)), .unset, .unset, .unset, .unset, .unset, .unset] [(.int i3)])) _
      refine st5 _ ?_
      show Steps p.tables e below (T5.setTop (mkF m 26 #[.val (.int i1), .val (.int i2), .val (.int i3), .val (.int i4), .val (.int i5), .val (.int i6), .val (.int (0 : Int32)), .val (.int ((128 : Int32) ||| (i1 &&& (127 : Int32)))), .val (.int (own_j1_6_0 i2)), .unset, .unset, .unset, .unset, .unset, .unset] [(.int (own_j1_6_0 i3))])) _
      refine XS.istore X5.here hx rfl (hb hby at_26) rfl (l' := #[.val (.int i1), .val (.int i2), .val (.int i3), .val (.int i4), .val (.int i5), .val (.int i6), .val (.int (0 : Int32)), .val (.int ((128 : Int32) ||| (i1 &&& (127 : Int32)))), .val (.int (own_j1_6_0 i2)), .val (.int (own_j1_6_0 i3)), .unset, .unset, .unset, .unset, .unset]) rfl ?_
      show Steps p.tables e below (T5.setTop (mkF m 28 #[.val (.int i1), .val (.int i2), .val (.int i3), .val (.int i4), .val (.int i5), .val (.int i6), .val (.int (0 : Int32)), .val (.int ((128 : Int32) ||| (i1 &&& (127 : Int32)))), .val (.int (own_j1_6_0 i2)), .val (.int (own_j1_6_0 i3)), .unset, .unset, .unset, .unset, .unset] [])) _
      refine XS.iloadN X5.here hx rfl (hb hby at_28) rfl ?_
      show Steps p.tables e below (T5.setTop (mkF m 29 #[.val (.int i1), .val (.int i2), .val (.int i3), .val (.int i4), .val (.int i5), .val (.int i6), .val (.int (0 : Int32)), .val (.int ((128 : Int32) ||| (i1 &&& (127 : Int32)))), .val (.int (own_j1_6_0 i2)), .val (.int (own_j1_6_0 i3)), .unset, .unset, .unset, .unset, .unset] [(.int i4)])) _
      refine st6 _ ?_
      show Steps p.tables e below (T6.setTop (mkF m 32 #[.val (.int i1), .val (.int i2), .val (.int i3), .val (.int i4), .val (.int i5), .val (.int i6), .val (.int (0 : Int32)), .val (.int ((128 : Int32) ||| (i1 &&& (127 : Int32)))), .val (.int (own_j1_6_0 i2)), .val (.int (own_j1_6_0 i3)), .unset, .unset, .unset, .unset, .unset] [(.int (own_j1_6_0 i4))])) _
      refine XS.istore X6.here hx rfl (hb hby at_32) rfl (l' := #[.val (.int i1), .val (.int i2), .val (.int i3), .val (.int i4), .val (.int i5), .val (.int i6), .val (.int (0 : Int32)), .val (.int ((128 : Int32) ||| (i1 &&& (127 : Int32)))), .val (.int (own_j1_6_0 i2)), .val (.int (own_j1_6_0 i3)), .val (.int (own_j1_6_0 i4)), .unset, .unset, .unset, .unset]) rfl ?_
      show Steps p.tables e below (T6.setTop (mkF m 34 #[.val (.int i1), .val (.int i2), .val (.int i3), .val (.int i4), .val (.int i5), .val (.int i6), .val (.int (0 : Int32)), .val (.int ((128 : Int32) ||| (i1 &&& (127 : Int32)))), .val (.int (own_j1_6_0 i2)), .val (.int (own_j1_6_0 i3)), .val (.int (own_j1_6_0 i4)), .unset, .unset, .unset, .unset] [])) _
      refine XS.iload X6.here hx rfl (hb hby at_34) rfl ?_
      show Steps p.tables e below (T6.setTop (mkF m 36 #[.val (.int i1), .val (.int i2), .val (.int i3), .val (.int i4), .val (.int i5), .val (.int i6), .val (.int (0 : Int32)), .val (.int ((128 : Int32) ||| (i1 &&& (127 : Int32)))), .val (.int (own_j1_6_0 i2)), .val (.int (own_j1_6_0 i3)), .val (.int (own_j1_6_0 i4)), .unset, .unset, .unset, .unset] [(.int i5)])) _
      refine XS.bipush X6.here hx rfl (hb hby at_36) ?_
      show Steps p.tables e below (T6.setTop (mkF m 38 #[.val (.int i1), .val (.int i2), .val (.int i3), .val (.int i4), .val (.int i5), .val (.int i6), .val (.int (0 : Int32)), .val (.int ((128 : Int32) ||| (i1 &&& (127 : Int32)))), .val (.int (own_j1_6_0 i2)), .val (.int (own_j1_6_0 i3)), .val (.int (own_j1_6_0 i4)), .unset, .unset, .unset, .unset] [(.int (8 : Int32)), (.int i5)])) _
      refine XS.iushr X6.here hx rfl (hb hby at_38) rfl ?_
      show Steps p.tables e below (T6.setTop (mkF m 39 #[.val (.int i1), .val (.int i2), .val (.int i3), .val (.int i4), .val (.int i5), .val (.int i6), .val (.int (0 : Int32)), .val (.int ((128 : Int32) ||| (i1 &&& (127 : Int32)))), .val (.int (own_j1_6_0 i2)), .val (.int (own_j1_6_0 i3)), .val (.int (own_j1_6_0 i4)), .unset, .unset, .unset, .unset] [(.int ((i5.toUInt32 >>> ((8 : Int32) &&& 31).toUInt32).toInt32))])) _
      refine XS.i2b X6.here hx rfl (hb hby at_39) rfl ?_
      show Steps p.tables e below (T6.setTop (mkF m 40 #[.val (.int i1), .val (.int i2), .val (.int i3), .val (.int i4), .val (.int i5), .val (.int i6), .val (.int (0 : Int32)), .val (.int ((128 : Int32) ||| (i1 &&& (127 : Int32)))), .val (.int (own_j1_6_0 i2)), .val (.int (own_j1_6_0 i3)), .val (.int (own_j1_6_0 i4)), .unset, .unset, .unset, .unset] [(.int (((i5.toUInt32 >>> ((8 : Int32) &&& 31).toUInt32).toInt32).toInt8.toInt32))])) _
      refine XS.istore X6.here hx rfl (hb hby at_40) rfl (l' := #[.val (.int i1), .val (.int i2), .val (.int i3), .val (.int i4), .val (.int i5), .val (.int i6), .val (.int (0 : Int32)), .val (.int ((128 : Int32) ||| (i1 &&& (127 : Int32)))), .val (.int (own_j1_6_0 i2)), .val (.int (own_j1_6_0 i3)), .val (.int (own_j1_6_0 i4)), .val (.int (((i5.toUInt32 >>> ((8 : Int32) &&& 31).toUInt32).toInt32).toInt8.toInt32)), .unset, .unset, .unset]) rfl ?_
      show Steps p.tables e below (T6.setTop (mkF m 42 #[.val (.int i1), .val (.int i2), .val (.int i3), .val (.int i4), .val (.int i5), .val (.int i6), .val (.int (0 : Int32)), .val (.int ((128 : Int32) ||| (i1 &&& (127 : Int32)))), .val (.int (own_j1_6_0 i2)), .val (.int (own_j1_6_0 i3)), .val (.int (own_j1_6_0 i4)), .val (.int (((i5.toUInt32 >>> ((8 : Int32) &&& 31).toUInt32).toInt32).toInt8.toInt32)), .unset, .unset, .unset] [])) _
      refine XS.bipush X6.here hx rfl (hb hby at_42) ?_
      show Steps p.tables e below (T6.setTop (mkF m 44 #[.val (.int i1), .val (.int i2), .val (.int i3), .val (.int i4), .val (.int i5), .val (.int i6), .val (.int (0 : Int32)), .val (.int ((128 : Int32) ||| (i1 &&& (127 : Int32)))), .val (.int (own_j1_6_0 i2)), .val (.int (own_j1_6_0 i3)), .val (.int (own_j1_6_0 i4)), .val (.int (((i5.toUInt32 >>> ((8 : Int32) &&& 31).toUInt32).toInt32).toInt8.toInt32)), .unset, .unset, .unset] [(.int (6 : Int32))])) _
      refine st7 _ ?_
      show Steps p.tables e below (T7.setTop (mkF m 46 #[.val (.int i1), .val (.int i2), .val (.int i3), .val (.int i4), .val (.int i5), .val (.int i6), .val (.int (0 : Int32)), .val (.int ((128 : Int32) ||| (i1 &&& (127 : Int32)))), .val (.int (own_j1_6_0 i2)), .val (.int (own_j1_6_0 i3)), .val (.int (own_j1_6_0 i4)), .val (.int (((i5.toUInt32 >>> ((8 : Int32) &&& 31).toUInt32).toInt32).toInt8.toInt32)), .unset, .unset, .unset] [(.ref b7)])) _
      refine XS.dup X7.here hx rfl (hb hby at_46) rfl rfl ?_
      show Steps p.tables e below (T7.setTop (mkF m 47 #[.val (.int i1), .val (.int i2), .val (.int i3), .val (.int i4), .val (.int i5), .val (.int i6), .val (.int (0 : Int32)), .val (.int ((128 : Int32) ||| (i1 &&& (127 : Int32)))), .val (.int (own_j1_6_0 i2)), .val (.int (own_j1_6_0 i3)), .val (.int (own_j1_6_0 i4)), .val (.int (((i5.toUInt32 >>> ((8 : Int32) &&& 31).toUInt32).toInt32).toInt8.toInt32)), .unset, .unset, .unset] [(.ref b7), (.ref b7)])) _
      refine XS.iconst X7.here hx rfl (hb hby at_47) ?_
      show Steps p.tables e below (T7.setTop (mkF m 48 #[.val (.int i1), .val (.int i2), .val (.int i3), .val (.int i4), .val (.int i5), .val (.int i6), .val (.int (0 : Int32)), .val (.int ((128 : Int32) ||| (i1 &&& (127 : Int32)))), .val (.int (own_j1_6_0 i2)), .val (.int (own_j1_6_0 i3)), .val (.int (own_j1_6_0 i4)), .val (.int (((i5.toUInt32 >>> ((8 : Int32) &&& 31).toUInt32).toInt32).toInt8.toInt32)), .unset, .unset, .unset] [(.int (0 : Int32)), (.ref b7), (.ref b7)])) _
      refine XS.iload X7.here hx rfl (hb hby at_48) rfl ?_
      show Steps p.tables e below (T7.setTop (mkF m 50 #[.val (.int i1), .val (.int i2), .val (.int i3), .val (.int i4), .val (.int i5), .val (.int i6), .val (.int (0 : Int32)), .val (.int ((128 : Int32) ||| (i1 &&& (127 : Int32)))), .val (.int (own_j1_6_0 i2)), .val (.int (own_j1_6_0 i3)), .val (.int (own_j1_6_0 i4)), .val (.int (((i5.toUInt32 >>> ((8 : Int32) &&& 31).toUInt32).toInt32).toInt8.toInt32)), .unset, .unset, .unset] [(.int (((i5.toUInt32 >>> ((8 : Int32) &&& 31).toUInt32).toInt32).toInt8.toInt32)), (.int (0 : Int32)), (.ref b7), (.ref b7)])) _
      refine st9 _ ?_
      show Steps p.tables e below (T9.setTop (mkF m 51 #[.val (.int i1), .val (.int i2), .val (.int i3), .val (.int i4), .val (.int i5), .val (.int i6), .val (.int (0 : Int32)), .val (.int ((128 : Int32) ||| (i1 &&& (127 : Int32)))), .val (.int (own_j1_6_0 i2)), .val (.int (own_j1_6_0 i3)), .val (.int (own_j1_6_0 i4)), .val (.int (((i5.toUInt32 >>> ((8 : Int32) &&& 31).toUInt32).toInt32).toInt8.toInt32)), .unset, .unset, .unset] [(.ref b7)])) _
      refine XS.dup X9.here hx rfl (hb hby at_51) rfl rfl ?_
      show Steps p.tables e below (T9.setTop (mkF m 52 #[.val (.int i1), .val (.int i2), .val (.int i3), .val (.int i4), .val (.int i5), .val (.int i6), .val (.int (0 : Int32)), .val (.int ((128 : Int32) ||| (i1 &&& (127 : Int32)))), .val (.int (own_j1_6_0 i2)), .val (.int (own_j1_6_0 i3)), .val (.int (own_j1_6_0 i4)), .val (.int (((i5.toUInt32 >>> ((8 : Int32) &&& 31).toUInt32).toInt32).toInt8.toInt32)), .unset, .unset, .unset] [(.ref b7), (.ref b7)])) _
      refine XS.iconst X9.here hx rfl (hb hby at_52) ?_
      show Steps p.tables e below (T9.setTop (mkF m 53 #[.val (.int i1), .val (.int i2), .val (.int i3), .val (.int i4), .val (.int i5), .val (.int i6), .val (.int (0 : Int32)), .val (.int ((128 : Int32) ||| (i1 &&& (127 : Int32)))), .val (.int (own_j1_6_0 i2)), .val (.int (own_j1_6_0 i3)), .val (.int (own_j1_6_0 i4)), .val (.int (((i5.toUInt32 >>> ((8 : Int32) &&& 31).toUInt32).toInt32).toInt8.toInt32)), .unset, .unset, .unset] [(.int (1 : Int32)), (.ref b7), (.ref b7)])) _
      refine XS.iload X9.here hx rfl (hb hby at_53) rfl ?_
      show Steps p.tables e below (T9.setTop (mkF m 55 #[.val (.int i1), .val (.int i2), .val (.int i3), .val (.int i4), .val (.int i5), .val (.int i6), .val (.int (0 : Int32)), .val (.int ((128 : Int32) ||| (i1 &&& (127 : Int32)))), .val (.int (own_j1_6_0 i2)), .val (.int (own_j1_6_0 i3)), .val (.int (own_j1_6_0 i4)), .val (.int (((i5.toUInt32 >>> ((8 : Int32) &&& 31).toUInt32).toInt32).toInt8.toInt32)), .unset, .unset, .unset] [(.int (((i5.toUInt32 >>> ((8 : Int32) &&& 31).toUInt32).toInt32).toInt8.toInt32)), (.int (1 : Int32)), (.ref b7), (.ref b7)])) _
      refine st11 _ ?_
      show Steps p.tables e below (T11.setTop (mkF m 56 #[.val (.int i1), .val (.int i2), .val (.int i3), .val (.int i4), .val (.int i5), .val (.int i6), .val (.int (0 : Int32)), .val (.int ((128 : Int32) ||| (i1 &&& (127 : Int32)))), .val (.int (own_j1_6_0 i2)), .val (.int (own_j1_6_0 i3)), .val (.int (own_j1_6_0 i4)), .val (.int (((i5.toUInt32 >>> ((8 : Int32) &&& 31).toUInt32).toInt32).toInt8.toInt32)), .unset, .unset, .unset] [(.ref b7)])) _
      refine XS.dup X11.here hx rfl (hb hby at_56) rfl rfl ?_
      show Steps p.tables e below (T11.setTop (mkF m 57 #[.val (.int i1), .val (.int i2), .val (.int i3), .val (.int i4), .val (.int i5), .val (.int i6), .val (.int (0 : Int32)), .val (.int ((128 : Int32) ||| (i1 &&& (127 : Int32)))), .val (.int (own_j1_6_0 i2)), .val (.int (own_j1_6_0 i3)), .val (.int (own_j1_6_0 i4)), .val (.int (((i5.toUInt32 >>> ((8 : Int32) &&& 31).toUInt32).toInt32).toInt8.toInt32)), .unset, .unset, .unset] [(.ref b7), (.ref b7)])) _
      refine XS.iconst X11.here hx rfl (hb hby at_57) ?_
      show Steps p.tables e below (T11.setTop (mkF m 58 #[.val (.int i1), .val (.int i2), .val (.int i3), .val (.int i4), .val (.int i5), .val (.int i6), .val (.int (0 : Int32)), .val (.int ((128 : Int32) ||| (i1 &&& (127 : Int32)))), .val (.int (own_j1_6_0 i2)), .val (.int (own_j1_6_0 i3)), .val (.int (own_j1_6_0 i4)), .val (.int (((i5.toUInt32 >>> ((8 : Int32) &&& 31).toUInt32).toInt32).toInt8.toInt32)), .unset, .unset, .unset] [(.int (2 : Int32)), (.ref b7), (.ref b7)])) _
      refine XS.iload X11.here hx rfl (hb hby at_58) rfl ?_
      show Steps p.tables e below (T11.setTop (mkF m 60 #[.val (.int i1), .val (.int i2), .val (.int i3), .val (.int i4), .val (.int i5), .val (.int i6), .val (.int (0 : Int32)), .val (.int ((128 : Int32) ||| (i1 &&& (127 : Int32)))), .val (.int (own_j1_6_0 i2)), .val (.int (own_j1_6_0 i3)), .val (.int (own_j1_6_0 i4)), .val (.int (((i5.toUInt32 >>> ((8 : Int32) &&& 31).toUInt32).toInt32).toInt8.toInt32)), .unset, .unset, .unset] [(.int (((i5.toUInt32 >>> ((8 : Int32) &&& 31).toUInt32).toInt32).toInt8.toInt32)), (.int (2 : Int32)), (.ref b7), (.ref b7)])) _
      refine st13 _ ?_
      show Steps p.tables e below (T13.setTop (mkF m 61 #[.val (.int i1), .val (.int i2), .val (.int i3), .val (.int i4), .val (.int i5), .val (.int i6), .val (.int (0 : Int32)), .val (.int ((128 : Int32) ||| (i1 &&& (127 : Int32)))), .val (.int (own_j1_6_0 i2)), .val (.int (own_j1_6_0 i3)), .val (.int (own_j1_6_0 i4)), .val (.int (((i5.toUInt32 >>> ((8 : Int32) &&& 31).toUInt32).toInt32).toInt8.toInt32)), .unset, .unset, .unset] [(.ref b7)])) _
      refine XS.dup X13.here hx rfl (hb hby at_61) rfl rfl ?_
      show Steps p.tables e below (T13.setTop (mkF m 62 #[.val (.int i1), .val (.int i2), .val (.int i3), .val (.int i4), .val (.int i5), .val (.int i6), .val (.int (0 : Int32)), .val (.int ((128 : Int32) ||| (i1 &&& (127 : Int32)))), .val (.int (own_j1_6_0 i2)), .val (.int (own_j1_6_0 i3)), .val (.int (own_j1_6_0 i4)), .val (.int (((i5.toUInt32 >>> ((8 : Int32) &&& 31).toUInt32).toInt32).toInt8.toInt32)), .unset, .unset, .unset] [(.ref b7), (.ref b7)])) _
      refine XS.iconst X13.here hx rfl (hb hby at_62) ?_
      show Steps p.tables e below (T13.setTop (mkF m 63 #[.val (.int i1), .val (.int i2), .val (.int i3), .val (.int i4), .val (.int i5), .val (.int i6), .val (.int (0 : Int32)), .val (.int ((128 : Int32) ||| (i1 &&& (127 : Int32)))), .val (.int (own_j1_6_0 i2)), .val (.int (own_j1_6_0 i3)), .val (.int (own_j1_6_0 i4)), .val (.int (((i5.toUInt32 >>> ((8 : Int32) &&& 31).toUInt32).toInt32).toInt8.toInt32)), .unset, .unset, .unset] [(.int (3 : Int32)), (.ref b7), (.ref b7)])) _
      refine XS.iload X13.here hx rfl (hb hby at_63) rfl ?_
      show Steps p.tables e below (T13.setTop (mkF m 65 #[.val (.int i1), .val (.int i2), .val (.int i3), .val (.int i4), .val (.int i5), .val (.int i6), .val (.int (0 : Int32)), .val (.int ((128 : Int32) ||| (i1 &&& (127 : Int32)))), .val (.int (own_j1_6_0 i2)), .val (.int (own_j1_6_0 i3)), .val (.int (own_j1_6_0 i4)), .val (.int (((i5.toUInt32 >>> ((8 : Int32) &&& 31).toUInt32).toInt32).toInt8.toInt32)), .unset, .unset, .unset] [(.int (((i5.toUInt32 >>> ((8 : Int32) &&& 31).toUInt32).toInt32).toInt8.toInt32)), (.int (3 : Int32)), (.ref b7), (.ref b7)])) _
      refine st15 _ ?_
      show Steps p.tables e below (T15.setTop (mkF m 66 #[.val (.int i1), .val (.int i2), .val (.int i3), .val (.int i4), .val (.int i5), .val (.int i6), .val (.int (0 : Int32)), .val (.int ((128 : Int32) ||| (i1 &&& (127 : Int32)))), .val (.int (own_j1_6_0 i2)), .val (.int (own_j1_6_0 i3)), .val (.int (own_j1_6_0 i4)), .val (.int (((i5.toUInt32 >>> ((8 : Int32) &&& 31).toUInt32).toInt32).toInt8.toInt32)), .unset, .unset, .unset] [(.ref b7)])) _
      refine XS.dup X15.here hx rfl (hb hby at_66) rfl rfl ?_
      show Steps p.tables e below (T15.setTop (mkF m 67 #[.val (.int i1), .val (.int i2), .val (.int i3), .val (.int i4), .val (.int i5), .val (.int i6), .val (.int (0 : Int32)), .val (.int ((128 : Int32) ||| (i1 &&& (127 : Int32)))), .val (.int (own_j1_6_0 i2)), .val (.int (own_j1_6_0 i3)), .val (.int (own_j1_6_0 i4)), .val (.int (((i5.toUInt32 >>> ((8 : Int32) &&& 31).toUInt32).toInt32).toInt8.toInt32)), .unset, .unset, .unset] [(.ref b7), (.ref b7)])) _
      refine XS.iconst X15.here hx rfl (hb hby at_67) ?_
      show Steps p.tables e below (T15.setTop (mkF m 68 #[.val (.int i1), .val (.int i2), .val (.int i3), .val (.int i4), .val (.int i5), .val (.int i6), .val (.int (0 : Int32)), .val (.int ((128 : Int32) ||| (i1 &&& (127 : Int32)))), .val (.int (own_j1_6_0 i2)), .val (.int (own_j1_6_0 i3)), .val (.int (own_j1_6_0 i4)), .val (.int (((i5.toUInt32 >>> ((8 : Int32) &&& 31).toUInt32).toInt32).toInt8.toInt32)), .unset, .unset, .unset] [(.int (4 : Int32)), (.ref b7), (.ref b7)])) _
      refine XS.iload X15.here hx rfl (hb hby at_68) rfl ?_
      show Steps p.tables e below (T15.setTop (mkF m 70 #[.val (.int i1), .val (.int i2), .val (.int i3), .val (.int i4), .val (.int i5), .val (.int i6), .val (.int (0 : Int32)), .val (.int ((128 : Int32) ||| (i1 &&& (127 : Int32)))), .val (.int (own_j1_6_0 i2)), .val (.int (own_j1_6_0 i3)), .val (.int (own_j1_6_0 i4)), .val (.int (((i5.toUInt32 >>> ((8 : Int32) &&& 31).toUInt32).toInt32).toInt8.toInt32)), .unset, .unset, .unset] [(.int (((i5.toUInt32 >>> ((8 : Int32) &&& 31).toUInt32).toInt32).toInt8.toInt32)), (.int (4 : Int32)), (.ref b7), (.ref b7)])) _
      refine st17 _ ?_
      show Steps p.tables e below (T17.setTop (mkF m 71 #[.val (.int i1), .val (.int i2), .val (.int i3), .val (.int i4), .val (.int i5), .val (.int i6), .val (.int (0 : Int32)), .val (.int ((128 : Int32) ||| (i1 &&& (127 : Int32)))), .val (.int (own_j1_6_0 i2)), .val (.int (own_j1_6_0 i3)), .val (.int (own_j1_6_0 i4)), .val (.int (((i5.toUInt32 >>> ((8 : Int32) &&& 31).toUInt32).toInt32).toInt8.toInt32)), .unset, .unset, .unset] [(.ref b7)])) _
      refine XS.dup X17.here hx rfl (hb hby at_71) rfl rfl ?_
      show Steps p.tables e below (T17.setTop (mkF m 72 #[.val (.int i1), .val (.int i2), .val (.int i3), .val (.int i4), .val (.int i5), .val (.int i6), .val (.int (0 : Int32)), .val (.int ((128 : Int32) ||| (i1 &&& (127 : Int32)))), .val (.int (own_j1_6_0 i2)), .val (.int (own_j1_6_0 i3)), .val (.int (own_j1_6_0 i4)), .val (.int (((i5.toUInt32 >>> ((8 : Int32) &&& 31).toUInt32).toInt32).toInt8.toInt32)), .unset, .unset, .unset] [(.ref b7), (.ref b7)])) _
      refine XS.iconst X17.here hx rfl (hb hby at_72) ?_
      show Steps p.tables e below (T17.setTop (mkF m 73 #[.val (.int i1), .val (.int i2), .val (.int i3), .val (.int i4), .val (.int i5), .val (.int i6), .val (.int (0 : Int32)), .val (.int ((128 : Int32) ||| (i1 &&& (127 : Int32)))), .val (.int (own_j1_6_0 i2)), .val (.int (own_j1_6_0 i3)), .val (.int (own_j1_6_0 i4)), .val (.int (((i5.toUInt32 >>> ((8 : Int32) &&& 31).toUInt32).toInt32).toInt8.toInt32)), .unset, .unset, .unset] [(.int (5 : Int32)), (.ref b7), (.ref b7)])) _
      refine XS.iload X17.here hx rfl (hb hby at_73) rfl ?_
      show Steps p.tables e below (T17.setTop (mkF m 75 #[.val (.int i1), .val (.int i2), .val (.int i3), .val (.int i4), .val (.int i5), .val (.int i6), .val (.int (0 : Int32)), .val (.int ((128 : Int32) ||| (i1 &&& (127 : Int32)))), .val (.int (own_j1_6_0 i2)), .val (.int (own_j1_6_0 i3)), .val (.int (own_j1_6_0 i4)), .val (.int (((i5.toUInt32 >>> ((8 : Int32) &&& 31).toUInt32).toInt32).toInt8.toInt32)), .unset, .unset, .unset] [(.int (((i5.toUInt32 >>> ((8 : Int32) &&& 31).toUInt32).toInt32).toInt8.toInt32)), (.int (5 : Int32)), (.ref b7), (.ref b7)])) _
      refine st19 _ ?_
      show Steps p.tables e below (T19.setTop (mkF m 76 #[.val (.int i1), .val (.int i2), .val (.int i3), .val (.int i4), .val (.int i5), .val (.int i6), .val (.int (0 : Int32)), .val (.int ((128 : Int32) ||| (i1 &&& (127 : Int32)))), .val (.int (own_j1_6_0 i2)), .val (.int (own_j1_6_0 i3)), .val (.int (own_j1_6_0 i4)), .val (.int (((i5.toUInt32 >>> ((8 : Int32) &&& 31).toUInt32).toInt32).toInt8.toInt32)), .unset, .unset, .unset] [(.ref b7)])) _
      refine XS.astore X19.here hx rfl (hb hby at_76) rfl rfl (l' := #[.val (.int i1), .val (.int i2), .val (.int i3), .val (.int i4), .val (.int i5), .val (.int i6), .val (.int (0 : Int32)), .val (.int ((128 : Int32) ||| (i1 &&& (127 : Int32)))), .val (.int (own_j1_6_0 i2)), .val (.int (own_j1_6_0 i3)), .val (.int (own_j1_6_0 i4)), .val (.int (((i5.toUInt32 >>> ((8 : Int32) &&& 31).toUInt32).toInt32).toInt8.toInt32)), .val (.ref b7), .unset, .unset]) rfl ?_
      show Steps p.tables e below (T19.setTop (mkF m 78 #[.val (.int i1), .val (.int i2), .val (.int i3), .val (.int i4), .val (.int i5), .val (.int i6), .val (.int (0 : Int32)), .val (.int ((128 : Int32) ||| (i1 &&& (127 : Int32)))), .val (.int (own_j1_6_0 i2)), .val (.int (own_j1_6_0 i3)), .val (.int (own_j1_6_0 i4)), .val (.int (((i5.toUInt32 >>> ((8 : Int32) &&& 31).toUInt32).toInt32).toInt8.toInt32)), .val (.ref b7), .unset, .unset] [])) _
      refine XS.aload X19.here hx rfl (hb hby at_78) rfl rfl ?_
      show Steps p.tables e below (T19.setTop (mkF m 80 #[.val (.int i1), .val (.int i2), .val (.int i3), .val (.int i4), .val (.int i5), .val (.int i6), .val (.int (0 : Int32)), .val (.int ((128 : Int32) ||| (i1 &&& (127 : Int32)))), .val (.int (own_j1_6_0 i2)), .val (.int (own_j1_6_0 i3)), .val (.int (own_j1_6_0 i4)), .val (.int (((i5.toUInt32 >>> ((8 : Int32) &&& 31).toUInt32).toInt32).toInt8.toInt32)), .val (.ref b7), .unset, .unset] [(.ref b7)])) _
      refine XS.iload X19.here hx rfl (hb hby at_80) rfl ?_
      show Steps p.tables e below (T19.setTop (mkF m 82 #[.val (.int i1), .val (.int i2), .val (.int i3), .val (.int i4), .val (.int i5), .val (.int i6), .val (.int (0 : Int32)), .val (.int ((128 : Int32) ||| (i1 &&& (127 : Int32)))), .val (.int (own_j1_6_0 i2)), .val (.int (own_j1_6_0 i3)), .val (.int (own_j1_6_0 i4)), .val (.int (((i5.toUInt32 >>> ((8 : Int32) &&& 31).toUInt32).toInt32).toInt8.toInt32)), .val (.ref b7), .unset, .unset] [(.int (0 : Int32)), (.ref b7)])) _
      refine XS.iload X19.here hx rfl (hb hby at_82) rfl ?_
      show Steps p.tables e below (T19.setTop (mkF m 84 #[.val (.int i1), .val (.int i2), .val (.int i3), .val (.int i4), .val (.int i5), .val (.int i6), .val (.int (0 : Int32)), .val (.int ((128 : Int32) ||| (i1 &&& (127 : Int32)))), .val (.int (own_j1_6_0 i2)), .val (.int (own_j1_6_0 i3)), .val (.int (own_j1_6_0 i4)), .val (.int (((i5.toUInt32 >>> ((8 : Int32) &&& 31).toUInt32).toInt32).toInt8.toInt32)), .val (.ref b7), .unset, .unset] [(.int ((128 : Int32) ||| (i1 &&& (127 : Int32)))), (.int (0 : Int32)), (.ref b7)])) _
      refine XS.i2b X19.here hx rfl (hb hby at_84) rfl ?_
      show Steps p.tables e below (T19.setTop (mkF m 85 #[.val (.int i1), .val (.int i2), .val (.int i3), .val (.int i4), .val (.int i5), .val (.int i6), .val (.int (0 : Int32)), .val (.int ((128 : Int32) ||| (i1 &&& (127 : Int32)))), .val (.int (own_j1_6_0 i2)), .val (.int (own_j1_6_0 i3)), .val (.int (own_j1_6_0 i4)), .val (.int (((i5.toUInt32 >>> ((8 : Int32) &&& 31).toUInt32).toInt32).toInt8.toInt32)), .val (.ref b7), .unset, .unset] [(.int (((128 : Int32) ||| (i1 &&& (127 : Int32))).toInt8.toInt32)), (.int (0 : Int32)), (.ref b7)])) _
      refine st21 _ ?_
      show Steps p.tables e below (T21.setTop (mkF m 86 #[.val (.int i1), .val (.int i2), .val (.int i3), .val (.int i4), .val (.int i5), .val (.int i6), .val (.int (0 : Int32)), .val (.int ((128 : Int32) ||| (i1 &&& (127 : Int32)))), .val (.int (own_j1_6_0 i2)), .val (.int (own_j1_6_0 i3)), .val (.int (own_j1_6_0 i4)), .val (.int (((i5.toUInt32 >>> ((8 : Int32) &&& 31).toUInt32).toInt32).toInt8.toInt32)), .val (.ref b7), .unset, .unset] [])) _
      refine XS.aload X21.here hx rfl (hb hby at_86) rfl rfl ?_
      show Steps p.tables e below (T21.setTop (mkF m 88 #[.val (.int i1), .val (.int i2), .val (.int i3), .val (.int i4), .val (.int i5), .val (.int i6), .val (.int (0 : Int32)), .val (.int ((128 : Int32) ||| (i1 &&& (127 : Int32)))), .val (.int (own_j1_6_0 i2)), .val (.int (own_j1_6_0 i3)), .val (.int (own_j1_6_0 i4)), .val (.int (((i5.toUInt32 >>> ((8 : Int32) &&& 31).toUInt32).toInt32).toInt8.toInt32)), .val (.ref b7), .unset, .unset] [(.ref b7)])) _
      refine XS.iload X21.here hx rfl (hb hby at_88) rfl ?_
      show Steps p.tables e below (T21.setTop (mkF m 90 #[.val (.int i1), .val (.int i2), .val (.int i3), .val (.int i4), .val (.int i5), .val (.int i6), .val (.int (0 : Int32)), .val (.int ((128 : Int32) ||| (i1 &&& (127 : Int32)))), .val (.int (own_j1_6_0 i2)), .val (.int (own_j1_6_0 i3)), .val (.int (own_j1_6_0 i4)), .val (.int (((i5.toUInt32 >>> ((8 : Int32) &&& 31).toUInt32).toInt32).toInt8.toInt32)), .val (.ref b7), .unset, .unset] [(.int (0 : Int32)), (.ref b7)])) _
      refine XS.iconst X21.here hx rfl (hb hby at_90) ?_
      show Steps p.tables e below (T21.setTop (mkF m 91 #[.val (.int i1), .val (.int i2), .val (.int i3), .val (.int i4), .val (.int i5), .val (.int i6), .val (.int (0 : Int32)), .val (.int ((128 : Int32) ||| (i1 &&& (127 : Int32)))), .val (.int (own_j1_6_0 i2)), .val (.int (own_j1_6_0 i3)), .val (.int (own_j1_6_0 i4)), .val (.int (((i5.toUInt32 >>> ((8 : Int32) &&& 31).toUInt32).toInt32).toInt8.toInt32)), .val (.ref b7), .unset, .unset] [(.int (1 : Int32)), (.int (0 : Int32)), (.ref b7)])) _
      refine XS.iadd X21.here hx rfl (hb hby at_91) rfl ?_
      show Steps p.tables e below (T21.setTop (mkF m 92 #[.val (.int i1), .val (.int i2), .val (.int i3), .val (.int i4), .val (.int i5), .val (.int i6), .val (.int (0 : Int32)), .val (.int ((128 : Int32) ||| (i1 &&& (127 : Int32)))), .val (.int (own_j1_6_0 i2)), .val (.int (own_j1_6_0 i3)), .val (.int (own_j1_6_0 i4)), .val (.int (((i5.toUInt32 >>> ((8 : Int32) &&& 31).toUInt32).toInt32).toInt8.toInt32)), .val (.ref b7), .unset, .unset] [(.int (1 : Int32)), (.ref b7)])) _
      refine XS.iload X21.here hx rfl (hb hby at_92) rfl ?_
      show Steps p.tables e below (T21.setTop (mkF m 94 #[.val (.int i1), .val (.int i2), .val (.int i3), .val (.int i4), .val (.int i5), .val (.int i6), .val (.int (0 : Int32)), .val (.int ((128 : Int32) ||| (i1 &&& (127 : Int32)))), .val (.int (own_j1_6_0 i2)), .val (.int (own_j1_6_0 i3)), .val (.int (own_j1_6_0 i4)), .val (.int (((i5.toUInt32 >>> ((8 : Int32) &&& 31).toUInt32).toInt32).toInt8.toInt32)), .val (.ref b7), .unset, .unset] [(.int (own_j1_6_0 i2)), (.int (1 : Int32)), (.ref b7)])) _
      refine XS.i2b X21.here hx rfl (hb hby at_94) rfl ?_
      show Steps p.tables e below (T21.setTop (mkF m 95 #[.val (.int i1), .val (.int i2), .val (.int i3), .val (.int i4), .val (.int i5), .val (.int i6), .val (.int (0 : Int32)), .val (.int ((128 : Int32) ||| (i1 &&& (127 : Int32)))), .val (.int (own_j1_6_0 i2)), .val (.int (own_j1_6_0 i3)), .val (.int (own_j1_6_0 i4)), .val (.int (((i5.toUInt32 >>> ((8 : Int32) &&& 31).toUInt32).toInt32).toInt8.toInt32)), .val (.ref b7), .unset, .unset] [(.int ((own_j1_6_0 i2).toInt8.toInt32)), (.int (1 : Int32)), (.ref b7)])) _
      refine st23 _ ?_
      show Steps p.tables e below (T23.setTop (mkF m 96 #[.val (.int i1), .val (.int i2), .val (.int i3), .val (.int i4), .val (.int i5), .val (.int i6), .val (.int (0 : Int32)), .val (.int ((128 : Int32) ||| (i1 &&& (127 : Int32)))), .val (.int (own_j1_6_0 i2)), .val (.int (own_j1_6_0 i3)), .val (.int (own_j1_6_0 i4)), .val (.int (((i5.toUInt32 >>> ((8 : Int32) &&& 31).toUInt32).toInt32).toInt8.toInt32)), .val (.ref b7), .unset, .unset] [])) _
      refine XS.aload X23.here hx rfl (hb hby at_96) rfl rfl ?_
      show Steps p.tables e below (T23.setTop (mkF m 98 #[.val (.int i1), .val (.int i2), .val (.int i3), .val (.int i4), .val (.int i5), .val (.int i6), .val (.int (0 : Int32)), .val (.int ((128 : Int32) ||| (i1 &&& (127 : Int32)))), .val (.int (own_j1_6_0 i2)), .val (.int (own_j1_6_0 i3)), .val (.int (own_j1_6_0 i4)), .val (.int (((i5.toUInt32 >>> ((8 : Int32) &&& 31).toUInt32).toInt32).toInt8.toInt32)), .val (.ref b7), .unset, .unset] [(.ref b7)])) _
      refine XS.iload X23.here hx rfl (hb hby at_98) rfl ?_
      show Steps p.tables e below (T23.setTop (mkF m 100 #[.val (.int i1), .val (.int i2), .val (.int i3), .val (.int i4), .val (.int i5), .val (.int i6), .val (.int (0 : Int32)), .val (.int ((128 : Int32) ||| (i1 &&& (127 : Int32)))), .val (.int (own_j1_6_0 i2)), .val (.int (own_j1_6_0 i3)), .val (.int (own_j1_6_0 i4)), .val (.int (((i5.toUInt32 >>> ((8 : Int32) &&& 31).toUInt32).toInt32).toInt8.toInt32)), .val (.ref b7), .unset, .unset] [(.int (0 : Int32)), (.ref b7)])) _
      refine XS.iconst X23.here hx rfl (hb hby at_100) ?_
      show Steps p.tables e below (T23.setTop (mkF m 101 #[.val (.int i1), .val (.int i2), .val (.int i3), .val (.int i4), .val (.int i5), .val (.int i6), .val (.int (0 : Int32)), .val (.int ((128 : Int32) ||| (i1 &&& (127 : Int32)))), .val (.int (own_j1_6_0 i2)), .val (.int (own_j1_6_0 i3)), .val (.int (own_j1_6_0 i4)), .val (.int (((i5.toUInt32 >>> ((8 : Int32) &&& 31).toUInt32).toInt32).toInt8.toInt32)), .val (.ref b7), .unset, .unset] [(.int (2 : Int32)), (.int (0 : Int32)), (.ref b7)])) _
      refine XS.iadd X23.here hx rfl (hb hby at_101) rfl ?_
      show Steps p.tables e below (T23.setTop (mkF m 102 #[.val (.int i1), .val (.int i2), .val (.int i3), .val (.int i4), .val (.int i5), .val (.int i6), .val (.int (0 : Int32)), .val (.int ((128 : Int32) ||| (i1 &&& (127 : Int32)))), .val (.int (own_j1_6_0 i2)), .val (.int (own_j1_6_0 i3)), .val (.int (own_j1_6_0 i4)), .val (.int (((i5.toUInt32 >>> ((8 : Int32) &&& 31).toUInt32).toInt32).toInt8.toInt32)), .val (.ref b7), .unset, .unset] [(.int (2 : Int32)), (.ref b7)])) _
      refine XS.iload X23.here hx rfl (hb hby at_102) rfl ?_
      show Steps p.tables e below (T23.setTop (mkF m 104 #[.val (.int i1), .val (.int i2), .val (.int i3), .val (.int i4), .val (.int i5), .val (.int i6), .val (.int (0 : Int32)), .val (.int ((128 : Int32) ||| (i1 &&& (127 : Int32)))), .val (.int (own_j1_6_0 i2)), .val (.int (own_j1_6_0 i3)), .val (.int (own_j1_6_0 i4)), .val (.int (((i5.toUInt32 >>> ((8 : Int32) &&& 31).toUInt32).toInt32).toInt8.toInt32)), .val (.ref b7), .unset, .unset] [(.int (own_j1_6_0 i3)), (.int (2 : Int32)), (.ref b7)])) _
      refine XS.i2b X23.here hx rfl (hb hby at_104) rfl ?_
      show Steps p.tables e below (T23.setTop (mkF m 105 #[.val (.int i1), .val (.int i2), .val (.int i3), .val (.int i4), .val (.int i5), .val (.int i6), .val (.int (0 : Int32)), .val (.int ((128 : Int32) ||| (i1 &&& (127 : Int32)))), .val (.int (own_j1_6_0 i2)), .val (.int (own_j1_6_0 i3)), .val (.int (own_j1_6_0 i4)), .val (.int (((i5.toUInt32 >>> ((8 : Int32) &&& 31).toUInt32).toInt32).toInt8.toInt32)), .val (.ref b7), .unset, .unset] [(.int ((own_j1_6_0 i3).toInt8.toInt32)), (.int (2 : Int32)), (.ref b7)])) _
      refine st25 _ ?_
      show Steps p.tables e below (T25.setTop (mkF m 106 #[.val (.int i1), .val (.int i2), .val (.int i3), .val (.int i4), .val (.int i5), .val (.int i6), .val (.int (0 : Int32)), .val (.int ((128 : Int32) ||| (i1 &&& (127 : Int32)))), .val (.int (own_j1_6_0 i2)), .val (.int (own_j1_6_0 i3)), .val (.int (own_j1_6_0 i4)), .val (.int (((i5.toUInt32 >>> ((8 : Int32) &&& 31).toUInt32).toInt32).toInt8.toInt32)), .val (.ref b7), .unset, .unset] [])) _
      refine XS.aload X25.here hx rfl (hb hby at_106) rfl rfl ?_
      show Steps p.tables e below (T25.setTop (mkF m 108 #[.val (.int i1), .val (.int i2), .val (.int i3), .val (.int i4), .val (.int i5), .val (.int i6), .val (.int (0 : Int32)), .val (.int ((128 : Int32) ||| (i1 &&& (127 : Int32)))), .val (.int (own_j1_6_0 i2)), .val (.int (own_j1_6_0 i3)), .val (.int (own_j1_6_0 i4)), .val (.int (((i5.toUInt32 >>> ((8 : Int32) &&& 31).toUInt32).toInt32).toInt8.toInt32)), .val (.ref b7), .unset, .unset] [(.ref b7)])) _
      refine XS.iload X25.here hx rfl (hb hby at_108) rfl ?_
      show Steps p.tables e below (T25.setTop (mkF m 110 #[.val (.int i1), .val (.int i2), .val (.int i3), .val (.int i4), .val (.int i5), .val (.int i6), .val (.int (0 : Int32)), .val (.int ((128 : Int32) ||| (i1 &&& (127 : Int32)))), .val (.int (own_j1_6_0 i2)), .val (.int (own_j1_6_0 i3)), .val (.int (own_j1_6_0 i4)), .val (.int (((i5.toUInt32 >>> ((8 : Int32) &&& 31).toUInt32).toInt32).toInt8.toInt32)), .val (.ref b7), .unset, .unset] [(.int (0 : Int32)), (.ref b7)])) _
      refine XS.iconst X25.here hx rfl (hb hby at_110) ?_
      show Steps p.tables e below (T25.setTop (mkF m 111 #[.val (.int i1), .val (.int i2), .val (.int i3), .val (.int i4), .val (.int i5), .val (.int i6), .val (.int (0 : Int32)), .val (.int ((128 : Int32) ||| (i1 &&& (127 : Int32)))), .val (.int (own_j1_6_0 i2)), .val (.int (own_j1_6_0 i3)), .val (.int (own_j1_6_0 i4)), .val (.int (((i5.toUInt32 >>> ((8 : Int32) &&& 31).toUInt32).toInt32).toInt8.toInt32)), .val (.ref b7), .unset, .unset] [(.int (3 : Int32)), (.int (0 : Int32)), (.ref b7)])) _
      refine XS.iadd X25.here hx rfl (hb hby at_111) rfl ?_
      show Steps p.tables e below (T25.setTop (mkF m 112 #[.val (.int i1), .val (.int i2), .val (.int i3), .val (.int i4), .val (.int i5), .val (.int i6), .val (.int (0 : Int32)), .val (.int ((128 : Int32) ||| (i1 &&& (127 : Int32)))), .val (.int (own_j1_6_0 i2)), .val (.int (own_j1_6_0 i3)), .val (.int (own_j1_6_0 i4)), .val (.int (((i5.toUInt32 >>> ((8 : Int32) &&& 31).toUInt32).toInt32).toInt8.toInt32)), .val (.ref b7), .unset, .unset] [(.int (3 : Int32)), (.ref b7)])) _
      refine XS.iload X25.here hx rfl (hb hby at_112) rfl ?_
      show Steps p.tables e below (T25.setTop (mkF m 114 #[.val (.int i1), .val (.int i2), .val (.int i3), .val (.int i4), .val (.int i5), .val (.int i6), .val (.int (0 : Int32)), .val (.int ((128 : Int32) ||| (i1 &&& (127 : Int32)))), .val (.int (own_j1_6_0 i2)), .val (.int (own_j1_6_0 i3)), .val (.int (own_j1_6_0 i4)), .val (.int (((i5.toUInt32 >>> ((8 : Int32) &&& 31).toUInt32).toInt32).toInt8.toInt32)), .val (.ref b7), .unset, .unset] [(.int (own_j1_6_0 i4)), (.int (3 : Int32)), (.ref b7)])) _
      refine XS.i2b X25.here hx rfl (hb hby at_114) rfl ?_
      show Steps p.tables e below (T25.setTop (mkF m 115 #[.val (.int i1), .val (.int i2), .val (.int i3), .val (.int i4), .val (.int i5), .val (.int i6), .val (.int (0 : Int32)), .val (.int ((128 : Int32) ||| (i1 &&& (127 : Int32)))), .val (.int (own_j1_6_0 i2)), .val (.int (own_j1_6_0 i3)), .val (.int (own_j1_6_0 i4)), .val (.int (((i5.toUInt32 >>> ((8 : Int32) &&& 31).toUInt32).toInt32).toInt8.toInt32)), .val (.ref b7), .unset, .unset] [(.int ((own_j1_6_0 i4).toInt8.toInt32)), (.int (3 : Int32)), (.ref b7)])) _
      refine st27 _ ?_
      show Steps p.tables e below (T27.setTop (mkF m 116 #[.val (.int i1), .val (.int i2), .val (.int i3), .val (.int i4), .val (.int i5), .val (.int i6), .val (.int (0 : Int32)), .val (.int ((128 : Int32) ||| (i1 &&& (127 : Int32)))), .val (.int (own_j1_6_0 i2)), .val (.int (own_j1_6_0 i3)), .val (.int (own_j1_6_0 i4)), .val (.int (((i5.toUInt32 >>> ((8 : Int32) &&& 31).toUInt32).toInt32).toInt8.toInt32)), .val (.ref b7), .unset, .unset] [])) _
      refine XS.iload X27.here hx rfl (hb hby at_116) rfl ?_
      show Steps p.tables e below (T27.setTop (mkF m 118 #[.val (.int i1), .val (.int i2), .val (.int i3), .val (.int i4), .val (.int i5), .val (.int i6), .val (.int (0 : Int32)), .val (.int ((128 : Int32) ||| (i1 &&& (127 : Int32)))), .val (.int (own_j1_6_0 i2)), .val (.int (own_j1_6_0 i3)), .val (.int (own_j1_6_0 i4)), .val (.int (((i5.toUInt32 >>> ((8 : Int32) &&& 31).toUInt32).toInt32).toInt8.toInt32)), .val (.ref b7), .unset, .unset] [(.int (0 : Int32))])) _
      refine XS.iconst X27.here hx rfl (hb hby at_118) ?_
      show Steps p.tables e below (T27.setTop (mkF m 119 #[.val (.int i1), .val (.int i2), .val (.int i3), .val (.int i4), .val (.int i5), .val (.int i6), .val (.int (0 : Int32)), .val (.int ((128 : Int32) ||| (i1 &&& (127 : Int32)))), .val (.int (own_j1_6_0 i2)), .val (.int (own_j1_6_0 i3)), .val (.int (own_j1_6_0 i4)), .val (.int (((i5.toUInt32 >>> ((8 : Int32) &&& 31).toUInt32).toInt32).toInt8.toInt32)), .val (.ref b7), .unset, .unset] [(.int (1 : Int32)), (.int (0 : Int32))])) _
      refine XS.iadd X27.here hx rfl (hb hby at_119) rfl ?_
      show Steps p.tables e below (T27.setTop (mkF m 120 #[.val (.int i1), .val (.int i2), .val (.int i3), .val (.int i4), .val (.int i5), .val (.int i6), .val (.int (0 : Int32)), .val (.int ((128 : Int32) ||| (i1 &&& (127 : Int32)))), .val (.int (own_j1_6_0 i2)), .val (.int (own_j1_6_0 i3)), .val (.int (own_j1_6_0 i4)), .val (.int (((i5.toUInt32 >>> ((8 : Int32) &&& 31).toUInt32).toInt32).toInt8.toInt32)), .val (.ref b7), .unset, .unset] [(.int (1 : Int32))])) _
      refine XS.iload X27.here hx rfl (hb hby at_120) rfl ?_
      show Steps p.tables e below (T27.setTop (mkF m 122 #[.val (.int i1), .val (.int i2), .val (.int i3), .val (.int i4), .val (.int i5), .val (.int i6), .val (.int (0 : Int32)), .val (.int ((128 : Int32) ||| (i1 &&& (127 : Int32)))), .val (.int (own_j1_6_0 i2)), .val (.int (own_j1_6_0 i3)), .val (.int (own_j1_6_0 i4)), .val (.int (((i5.toUInt32 >>> ((8 : Int32) &&& 31).toUInt32).toInt32).toInt8.toInt32)), .val (.ref b7), .unset, .unset] [(.int i6), (.int (1 : Int32))])) _
      refine X27.ldcInt hx hown (mvT hZ (hw _ (List.mem_of_getElem? (i := 5) rfl))) (g := (mkF m 122 #[.val (.int i1), .val (.int i2), .val (.int i3), .val (.int i4), .val (.int i5), .val (.int i6), .val (.int (0 : Int32)), .val (.int ((128 : Int32) ||| (i1 &&& (127 : Int32)))), .val (.int (own_j1_6_0 i2)), .val (.int (own_j1_6_0 i3)), .val (.int (own_j1_6_0 i4)), .val (.int (((i5.toUInt32 >>> ((8 : Int32) &&& 31).toUInt32).toInt32).toInt8.toInt32)), .val (.ref b7), .unset, .unset] [(.int i6), (.int (1 : Int32))])) rfl (hb hby at_122) _ ?_
      show Steps p.tables e below (T27.setTop (mkF m 124 #[.val (.int i1), .val (.int i2), .val (.int i3), .val (.int i4), .val (.int i5), .val (.int i6), .val (.int (0 : Int32)), .val (.int ((128 : Int32) ||| (i1 &&& (127 : Int32)))), .val (.int (own_j1_6_0 i2)), .val (.int (own_j1_6_0 i3)), .val (.int (own_j1_6_0 i4)), .val (.int (((i5.toUInt32 >>> ((8 : Int32) &&& 31).toUInt32).toInt32).toInt8.toInt32)), .val (.ref b7), .unset, .unset] [(.int (2147483647 : Int32)), (.int i6), (.int (1 : Int32))])) _
      refine XS.iand X27.here hx rfl (hb hby at_124) rfl ?_
      show Steps p.tables e below (T27.setTop (mkF m 125 #[.val (.int i1), .val (.int i2), .val (.int i3), .val (.int i4), .val (.int i5), .val (.int i6), .val (.int (0 : Int32)), .val (.int ((128 : Int32) ||| (i1 &&& (127 : Int32)))), .val (.int (own_j1_6_0 i2)), .val (.int (own_j1_6_0 i3)), .val (.int (own_j1_6_0 i4)), .val (.int (((i5.toUInt32 >>> ((8 : Int32) &&& 31).toUInt32).toInt32).toInt8.toInt32)), .val (.ref b7), .unset, .unset] [(.int (i6 &&& (2147483647 : Int32))), (.int (1 : Int32))])) _
      refine XS.bipush X27.here hx rfl (hb hby at_125) ?_
      show Steps p.tables e below (T27.setTop (mkF m 127 #[.val (.int i1), .val (.int i2), .val (.int i3), .val (.int i4), .val (.int i5), .val (.int i6), .val (.int (0 : Int32)), .val (.int ((128 : Int32) ||| (i1 &&& (127 : Int32)))), .val (.int (own_j1_6_0 i2)), .val (.int (own_j1_6_0 i3)), .val (.int (own_j1_6_0 i4)), .val (.int (((i5.toUInt32 >>> ((8 : Int32) &&& 31).toUInt32).toInt32).toInt8.toInt32)), .val (.ref b7), .unset, .unset] [(.int (6 : Int32)), (.int (i6 &&& (2147483647 : Int32))), (.int (1 : Int32))])) _
      refine XS.iload X27.here hx rfl (hb hby at_127) rfl ?_
      show Steps p.tables e below (T27.setTop (mkF m 129 #[.val (.int i1), .val (.int i2), .val (.int i3), .val (.int i4), .val (.int i5), .val (.int i6), .val (.int (0 : Int32)), .val (.int ((128 : Int32) ||| (i1 &&& (127 : Int32)))), .val (.int (own_j1_6_0 i2)), .val (.int (own_j1_6_0 i3)), .val (.int (own_j1_6_0 i4)), .val (.int (((i5.toUInt32 >>> ((8 : Int32) &&& 31).toUInt32).toInt32).toInt8.toInt32)), .val (.ref b7), .unset, .unset] [(.int (0 : Int32)), (.int (6 : Int32)), (.int (i6 &&& (2147483647 : Int32))), (.int (1 : Int32))])) _
      refine XS.isub X27.here hx rfl (hb hby at_129) rfl ?_
      show Steps p.tables e below (T27.setTop (mkF m 130 #[.val (.int i1), .val (.int i2), .val (.int i3), .val (.int i4), .val (.int i5), .val (.int i6), .val (.int (0 : Int32)), .val (.int ((128 : Int32) ||| (i1 &&& (127 : Int32)))), .val (.int (own_j1_6_0 i2)), .val (.int (own_j1_6_0 i3)), .val (.int (own_j1_6_0 i4)), .val (.int (((i5.toUInt32 >>> ((8 : Int32) &&& 31).toUInt32).toInt32).toInt8.toInt32)), .val (.ref b7), .unset, .unset] [(.int (6 : Int32)), (.int (i6 &&& (2147483647 : Int32))), (.int (1 : Int32))])) _
      refine iremM X27 hx rfl (hb hby at_130) rfl (by decide) ?_
      show Steps p.tables e below (T27.setTop (mkF m 131 #[.val (.int i1), .val (.int i2), .val (.int i3), .val (.int i4), .val (.int i5), .val (.int i6), .val (.int (0 : Int32)), .val (.int ((128 : Int32) ||| (i1 &&& (127 : Int32)))), .val (.int (own_j1_6_0 i2)), .val (.int (own_j1_6_0 i3)), .val (.int (own_j1_6_0 i4)), .val (.int (((i5.toUInt32 >>> ((8 : Int32) &&& 31).toUInt32).toInt32).toInt8.toInt32)), .val (.ref b7), .unset, .unset] [(.int ((i6 &&& (2147483647 : Int32)) % (6 : Int32))), (.int (1 : Int32))])) _
      refine XS.iadd X27.here hx rfl (hb hby at_131) rfl ?_
      show Steps p.tables e below (T27.setTop (mkF m 132 #[.val (.int i1), .val (.int i2), .val (.int i3), .val (.int i4), .val (.int i5), .val (.int i6), .val (.int (0 : Int32)), .val (.int ((128 : Int32) ||| (i1 &&& (127 : Int32)))), .val (.int (own_j1_6_0 i2)), .val (.int (own_j1_6_0 i3)), .val (.int (own_j1_6_0 i4)), .val (.int (((i5.toUInt32 >>> ((8 : Int32) &&& 31).toUInt32).toInt32).toInt8.toInt32)), .val (.ref b7), .unset, .unset] [(.int ((1 : Int32) + ((i6 &&& (2147483647 : Int32)) % (6 : Int32))))])) _
      refine XS.istore X27.here hx rfl (hb hby at_132) rfl (l' := #[.val (.int i1), .val (.int i2), .val (.int i3), .val (.int i4), .val (.int i5), .val (.int i6), .val (.int (0 : Int32)), .val (.int ((128 : Int32) ||| (i1 &&& (127 : Int32)))), .val (.int (own_j1_6_0 i2)), .val (.int (own_j1_6_0 i3)), .val (.int (own_j1_6_0 i4)), .val (.int (((i5.toUInt32 >>> ((8 : Int32) &&& 31).toUInt32).toInt32).toInt8.toInt32)), .val (.ref b7), .val (.int ((1 : Int32) + ((i6 &&& (2147483647 : Int32)) % (6 : Int32)))), .unset]) rfl ?_
      show Steps p.tables e below (T27.setTop (mkF m 134 #[.val (.int i1), .val (.int i2), .val (.int i3), .val (.int i4), .val (.int i5), .val (.int i6), .val (.int (0 : Int32)), .val (.int ((128 : Int32) ||| (i1 &&& (127 : Int32)))), .val (.int (own_j1_6_0 i2)), .val (.int (own_j1_6_0 i3)), .val (.int (own_j1_6_0 i4)), .val (.int (((i5.toUInt32 >>> ((8 : Int32) &&& 31).toUInt32).toInt32).toInt8.toInt32)), .val (.ref b7), .val (.int ((1 : Int32) + ((i6 &&& (2147483647 : Int32)) % (6 : Int32)))), .unset] [])) _
      refine XS.iload X27.here hx rfl (hb hby at_134) rfl ?_
      show Steps p.tables e below (T27.setTop (mkF m 136 #[.val (.int i1), .val (.int i2), .val (.int i3), .val (.int i4), .val (.int i5), .val (.int i6), .val (.int (0 : Int32)), .val (.int ((128 : Int32) ||| (i1 &&& (127 : Int32)))), .val (.int (own_j1_6_0 i2)), .val (.int (own_j1_6_0 i3)), .val (.int (own_j1_6_0 i4)), .val (.int (((i5.toUInt32 >>> ((8 : Int32) &&& 31).toUInt32).toInt32).toInt8.toInt32)), .val (.ref b7), .val (.int ((1 : Int32) + ((i6 &&& (2147483647 : Int32)) % (6 : Int32)))), .unset] [(.int (0 : Int32))])) _
      refine XS.iload X27.here hx rfl (hb hby at_136) rfl ?_
      show Steps p.tables e below (T27.setTop (mkF m 138 #[.val (.int i1), .val (.int i2), .val (.int i3), .val (.int i4), .val (.int i5), .val (.int i6), .val (.int (0 : Int32)), .val (.int ((128 : Int32) ||| (i1 &&& (127 : Int32)))), .val (.int (own_j1_6_0 i2)), .val (.int (own_j1_6_0 i3)), .val (.int (own_j1_6_0 i4)), .val (.int (((i5.toUInt32 >>> ((8 : Int32) &&& 31).toUInt32).toInt32).toInt8.toInt32)), .val (.ref b7), .val (.int ((1 : Int32) + ((i6 &&& (2147483647 : Int32)) % (6 : Int32)))), .unset] [(.int ((1 : Int32) + ((i6 &&& (2147483647 : Int32)) % (6 : Int32)))), (.int (0 : Int32))])) _
      refine XS.iload X27.here hx rfl (hb hby at_138) rfl ?_
      show Steps p.tables e below (T27.setTop (mkF m 140 #[.val (.int i1), .val (.int i2), .val (.int i3), .val (.int i4), .val (.int i5), .val (.int i6), .val (.int (0 : Int32)), .val (.int ((128 : Int32) ||| (i1 &&& (127 : Int32)))), .val (.int (own_j1_6_0 i2)), .val (.int (own_j1_6_0 i3)), .val (.int (own_j1_6_0 i4)), .val (.int (((i5.toUInt32 >>> ((8 : Int32) &&& 31).toUInt32).toInt32).toInt8.toInt32)), .val (.ref b7), .val (.int ((1 : Int32) + ((i6 &&& (2147483647 : Int32)) % (6 : Int32)))), .unset] [(.int ((128 : Int32) ||| (i1 &&& (127 : Int32)))), (.int ((1 : Int32) + ((i6 &&& (2147483647 : Int32)) % (6 : Int32)))), (.int (0 : Int32))])) _
      refine XS.iload X27.here hx rfl (hb hby at_140) rfl ?_
      show Steps p.tables e below (T27.setTop (mkF m 142 #[.val (.int i1), .val (.int i2), .val (.int i3), .val (.int i4), .val (.int i5), .val (.int i6), .val (.int (0 : Int32)), .val (.int ((128 : Int32) ||| (i1 &&& (127 : Int32)))), .val (.int (own_j1_6_0 i2)), .val (.int (own_j1_6_0 i3)), .val (.int (own_j1_6_0 i4)), .val (.int (((i5.toUInt32 >>> ((8 : Int32) &&& 31).toUInt32).toInt32).toInt8.toInt32)), .val (.ref b7), .val (.int ((1 : Int32) + ((i6 &&& (2147483647 : Int32)) % (6 : Int32)))), .unset] [(.int (own_j1_6_0 i2)), (.int ((128 : Int32) ||| (i1 &&& (127 : Int32)))), (.int ((1 : Int32) + ((i6 &&& (2147483647 : Int32)) % (6 : Int32)))), (.int (0 : Int32))])) _
      refine XS.iload X27.here hx rfl (hb hby at_142) rfl ?_
      show Steps p.tables e below (T27.setTop (mkF m 144 #[.val (.int i1), .val (.int i2), .val (.int i3), .val (.int i4), .val (.int i5), .val (.int i6), .val (.int (0 : Int32)), .val (.int ((128 : Int32) ||| (i1 &&& (127 : Int32)))), .val (.int (own_j1_6_0 i2)), .val (.int (own_j1_6_0 i3)), .val (.int (own_j1_6_0 i4)), .val (.int (((i5.toUInt32 >>> ((8 : Int32) &&& 31).toUInt32).toInt32).toInt8.toInt32)), .val (.ref b7), .val (.int ((1 : Int32) + ((i6 &&& (2147483647 : Int32)) % (6 : Int32)))), .unset] [(.int (own_j1_6_0 i3)), (.int (own_j1_6_0 i2)), (.int ((128 : Int32) ||| (i1 &&& (127 : Int32)))), (.int ((1 : Int32) + ((i6 &&& (2147483647 : Int32)) % (6 : Int32)))), (.int (0 : Int32))])) _
      refine XS.iload X27.here hx rfl (hb hby at_144) rfl ?_
      show Steps p.tables e below (T27.setTop (mkF m 146 #[.val (.int i1), .val (.int i2), .val (.int i3), .val (.int i4), .val (.int i5), .val (.int i6), .val (.int (0 : Int32)), .val (.int ((128 : Int32) ||| (i1 &&& (127 : Int32)))), .val (.int (own_j1_6_0 i2)), .val (.int (own_j1_6_0 i3)), .val (.int (own_j1_6_0 i4)), .val (.int (((i5.toUInt32 >>> ((8 : Int32) &&& 31).toUInt32).toInt32).toInt8.toInt32)), .val (.ref b7), .val (.int ((1 : Int32) + ((i6 &&& (2147483647 : Int32)) % (6 : Int32)))), .unset] [(.int (own_j1_6_0 i4)), (.int (own_j1_6_0 i3)), (.int (own_j1_6_0 i2)), (.int ((128 : Int32) ||| (i1 &&& (127 : Int32)))), (.int ((1 : Int32) + ((i6 &&& (2147483647 : Int32)) % (6 : Int32)))), (.int (0 : Int32))])) _
      refine st29 _ ?_
      show Steps p.tables e below (T29.setTop (mkF m 149 #[.val (.int i1), .val (.int i2), .val (.int i3), .val (.int i4), .val (.int i5), .val (.int i6), .val (.int (0 : Int32)), .val (.int ((128 : Int32) ||| (i1 &&& (127 : Int32)))), .val (.int (own_j1_6_0 i2)), .val (.int (own_j1_6_0 i3)), .val (.int (own_j1_6_0 i4)), .val (.int (((i5.toUInt32 >>> ((8 : Int32) &&& 31).toUInt32).toInt32).toInt8.toInt32)), .val (.ref b7), .val (.int ((1 : Int32) + ((i6 &&& (2147483647 : Int32)) % (6 : Int32)))), .unset] [(.int (own_r2 (0 : Int32) ((1 : Int32) + ((i6 &&& (2147483647 : Int32)) % (6 : Int32))) ((128 : Int32) ||| (i1 &&& (127 : Int32))) (own_j1_6_0 i2) (own_j1_6_0 i3) (own_j1_6_0 i4)))])) _
      refine XS.istore X29.here hx rfl (hb hby at_149) rfl (l' := #[.val (.int i1), .val (.int i2), .val (.int i3), .val (.int i4), .val (.int i5), .val (.int i6), .val (.int (0 : Int32)), .val (.int ((128 : Int32) ||| (i1 &&& (127 : Int32)))), .val (.int (own_j1_6_0 i2)), .val (.int (own_j1_6_0 i3)), .val (.int (own_j1_6_0 i4)), .val (.int (((i5.toUInt32 >>> ((8 : Int32) &&& 31).toUInt32).toInt32).toInt8.toInt32)), .val (.ref b7), .val (.int ((1 : Int32) + ((i6 &&& (2147483647 : Int32)) % (6 : Int32)))), .val (.int (own_r2 (0 : Int32) ((1 : Int32) + ((i6 &&& (2147483647 : Int32)) % (6 : Int32))) ((128 : Int32) ||| (i1 &&& (127 : Int32))) (own_j1_6_0 i2) (own_j1_6_0 i3) (own_j1_6_0 i4)))]) rfl ?_
      show Steps p.tables e below (T29.setTop (mkF m 151 #[.val (.int i1), .val (.int i2), .val (.int i3), .val (.int i4), .val (.int i5), .val (.int i6), .val (.int (0 : Int32)), .val (.int ((128 : Int32) ||| (i1 &&& (127 : Int32)))), .val (.int (own_j1_6_0 i2)), .val (.int (own_j1_6_0 i3)), .val (.int (own_j1_6_0 i4)), .val (.int (((i5.toUInt32 >>> ((8 : Int32) &&& 31).toUInt32).toInt32).toInt8.toInt32)), .val (.ref b7), .val (.int ((1 : Int32) + ((i6 &&& (2147483647 : Int32)) % (6 : Int32)))), .val (.int (own_r2 (0 : Int32) ((1 : Int32) + ((i6 &&& (2147483647 : Int32)) % (6 : Int32))) ((128 : Int32) ||| (i1 &&& (127 : Int32))) (own_j1_6_0 i2) (own_j1_6_0 i3) (own_j1_6_0 i4)))] [])) _
      refine XS.aload X29.here hx rfl (hb hby at_151) rfl rfl ?_
      show Steps p.tables e below (T29.setTop (mkF m 153 #[.val (.int i1), .val (.int i2), .val (.int i3), .val (.int i4), .val (.int i5), .val (.int i6), .val (.int (0 : Int32)), .val (.int ((128 : Int32) ||| (i1 &&& (127 : Int32)))), .val (.int (own_j1_6_0 i2)), .val (.int (own_j1_6_0 i3)), .val (.int (own_j1_6_0 i4)), .val (.int (((i5.toUInt32 >>> ((8 : Int32) &&& 31).toUInt32).toInt32).toInt8.toInt32)), .val (.ref b7), .val (.int ((1 : Int32) + ((i6 &&& (2147483647 : Int32)) % (6 : Int32)))), .val (.int (own_r2 (0 : Int32) ((1 : Int32) + ((i6 &&& (2147483647 : Int32)) % (6 : Int32))) ((128 : Int32) ||| (i1 &&& (127 : Int32))) (own_j1_6_0 i2) (own_j1_6_0 i3) (own_j1_6_0 i4)))] [(.ref b7)])) _
      refine XS.iload X29.here hx rfl (hb hby at_153) rfl ?_
      show Steps p.tables e below (T29.setTop (mkF m 155 #[.val (.int i1), .val (.int i2), .val (.int i3), .val (.int i4), .val (.int i5), .val (.int i6), .val (.int (0 : Int32)), .val (.int ((128 : Int32) ||| (i1 &&& (127 : Int32)))), .val (.int (own_j1_6_0 i2)), .val (.int (own_j1_6_0 i3)), .val (.int (own_j1_6_0 i4)), .val (.int (((i5.toUInt32 >>> ((8 : Int32) &&& 31).toUInt32).toInt32).toInt8.toInt32)), .val (.ref b7), .val (.int ((1 : Int32) + ((i6 &&& (2147483647 : Int32)) % (6 : Int32)))), .val (.int (own_r2 (0 : Int32) ((1 : Int32) + ((i6 &&& (2147483647 : Int32)) % (6 : Int32))) ((128 : Int32) ||| (i1 &&& (127 : Int32))) (own_j1_6_0 i2) (own_j1_6_0 i3) (own_j1_6_0 i4)))] [(.int (0 : Int32)), (.ref b7)])) _
      refine XS.iload X29.here hx rfl (hb hby at_155) rfl ?_
      show Steps p.tables e below (T29.setTop (mkF m 157 #[.val (.int i1), .val (.int i2), .val (.int i3), .val (.int i4), .val (.int i5), .val (.int i6), .val (.int (0 : Int32)), .val (.int ((128 : Int32) ||| (i1 &&& (127 : Int32)))), .val (.int (own_j1_6_0 i2)), .val (.int (own_j1_6_0 i3)), .val (.int (own_j1_6_0 i4)), .val (.int (((i5.toUInt32 >>> ((8 : Int32) &&& 31).toUInt32).toInt32).toInt8.toInt32)), .val (.ref b7), .val (.int ((1 : Int32) + ((i6 &&& (2147483647 : Int32)) % (6 : Int32)))), .val (.int (own_r2 (0 : Int32) ((1 : Int32) + ((i6 &&& (2147483647 : Int32)) % (6 : Int32))) ((128 : Int32) ||| (i1 &&& (127 : Int32))) (own_j1_6_0 i2) (own_j1_6_0 i3) (own_j1_6_0 i4)))] [(.int ((1 : Int32) + ((i6 &&& (2147483647 : Int32)) % (6 : Int32)))), (.int (0 : Int32)), (.ref b7)])) _
      refine st30 _ ?_
      show Steps p.tables e below (T30.setTop (mkF m 160 #[.val (.int i1), .val (.int i2), .val (.int i3), .val (.int i4), .val (.int i5), .val (.int i6), .val (.int (0 : Int32)), .val (.int ((128 : Int32) ||| (i1 &&& (127 : Int32)))), .val (.int (own_j1_6_0 i2)), .val (.int (own_j1_6_0 i3)), .val (.int (own_j1_6_0 i4)), .val (.int (((i5.toUInt32 >>> ((8 : Int32) &&& 31).toUInt32).toInt32).toInt8.toInt32)), .val (.ref b7), .val (.int ((1 : Int32) + ((i6 &&& (2147483647 : Int32)) % (6 : Int32)))), .val (.int (own_r2 (0 : Int32) ((1 : Int32) + ((i6 &&& (2147483647 : Int32)) % (6 : Int32))) ((128 : Int32) ||| (i1 &&& (127 : Int32))) (own_j1_6_0 i2) (own_j1_6_0 i3) (own_j1_6_0 i4)))] [(.int (own_r3 ((1 : Int32) + ((i6 &&& (2147483647 : Int32)) % (6 : Int32))) (nar .byte (((128 : Int32) ||| (i1 &&& (127 : Int32))).toInt8.toInt32)) (nar .byte ((own_j1_6_0 i2).toInt8.toInt32)) (nar .byte ((own_j1_6_0 i3).toInt8.toInt32)) (nar .byte ((own_j1_6_0 i4).toInt8.toInt32))))])) _
      refine XS.iload X30.here hx rfl (hb hby at_160) rfl ?_
      exact k
    have pre35 : ∀ t, Steps p.tables e below (T30.setTop (mkF m 170 #[.val (.int i1), .val (.int i2), .val (.int i3), .val (.int i4), .val (.int i5), .val (.int i6), .val (.int (0 : Int32)), .val (.int ((128 : Int32) ||| (i1 &&& (127 : Int32)))), .val (.int (own_j1_6_0 i2)), .val (.int (own_j1_6_0 i3)), .val (.int (own_j1_6_0 i4)), .val (.int (((i5.toUInt32 >>> ((8 : Int32) &&& 31).toUInt32).toInt32).toInt8.toInt32)), .val (.ref b7), .val (.int ((1 : Int32) + ((i6 &&& (2147483647 : Int32)) % (6 : Int32)))), .val (.int (own_r2 (0 : Int32) ((1 : Int32) + ((i6 &&& (2147483647 : Int32)) % (6 : Int32))) ((128 : Int32) ||| (i1 &&& (127 : Int32))) (own_j1_6_0 i2) (own_j1_6_0 i3) (own_j1_6_0 i4)))] [(.int (own_j0_162_0 i1 i2 i3 i4 i6))])) t → Steps p.tables e below (s₁.setTop (entryFrame m #[(.int i1), (.int i2), (.int i3), (.int i4), (.int i5), (.int i6)] maxLocals)) t := by
      by_cases hc162_32 : (own_r3 ((1 : Int32) + ((i6 &&& (2147483647 : Int32)) % (6 : Int32))) (nar .byte (((128 : Int32) ||| (i1 &&& (127 : Int32))).toInt8.toInt32)) (nar .byte ((own_j1_6_0 i2).toInt8.toInt32)) (nar .byte ((own_j1_6_0 i3).toInt8.toInt32)) (nar .byte ((own_j1_6_0 i4).toInt8.toInt32))) = (own_r2 (0 : Int32) ((1 : Int32) + ((i6 &&& (2147483647 : Int32)) % (6 : Int32))) ((128 : Int32) ||| (i1 &&& (127 : Int32))) (own_j1_6_0 i2) (own_j1_6_0 i3) (own_j1_6_0 i4))
      · have pre33 : ∀ t, Steps p.tables e below (T30.setTop (mkF m 170 #[.val (.int i1), .val (.int i2), .val (.int i3), .val (.int i4), .val (.int i5), .val (.int i6), .val (.int (0 : Int32)), .val (.int ((128 : Int32) ||| (i1 &&& (127 : Int32)))), .val (.int (own_j1_6_0 i2)), .val (.int (own_j1_6_0 i3)), .val (.int (own_j1_6_0 i4)), .val (.int (((i5.toUInt32 >>> ((8 : Int32) &&& 31).toUInt32).toInt32).toInt8.toInt32)), .val (.ref b7), .val (.int ((1 : Int32) + ((i6 &&& (2147483647 : Int32)) % (6 : Int32)))), .val (.int (own_r2 (0 : Int32) ((1 : Int32) + ((i6 &&& (2147483647 : Int32)) % (6 : Int32))) ((128 : Int32) ||| (i1 &&& (127 : Int32))) (own_j1_6_0 i2) (own_j1_6_0 i3) (own_j1_6_0 i4)))] [(.int (1 : Int32))])) t → Steps p.tables e below (s₁.setTop (entryFrame m #[(.int i1), (.int i2), (.int i3), (.int i4), (.int i5), (.int i6)] maxLocals)) t := by
          intro t k
          refine pre31 _ ?_
          show Steps p.tables e below (T30.setTop (mkF m 162 #[.val (.int i1), .val (.int i2), .val (.int i3), .val (.int i4), .val (.int i5), .val (.int i6), .val (.int (0 : Int32)), .val (.int ((128 : Int32) ||| (i1 &&& (127 : Int32)))), .val (.int (own_j1_6_0 i2)), .val (.int (own_j1_6_0 i3)), .val (.int (own_j1_6_0 i4)), .val (.int (((i5.toUInt32 >>> ((8 : Int32) &&& 31).toUInt32).toInt32).toInt8.toInt32)), .val (.ref b7), .val (.int ((1 : Int32) + ((i6 &&& (2147483647 : Int32)) % (6 : Int32)))), .val (.int (own_r2 (0 : Int32) ((1 : Int32) + ((i6 &&& (2147483647 : Int32)) % (6 : Int32))) ((128 : Int32) ||| (i1 &&& (127 : Int32))) (own_j1_6_0 i2) (own_j1_6_0 i3) (own_j1_6_0 i4)))] [(.int (own_r2 (0 : Int32) ((1 : Int32) + ((i6 &&& (2147483647 : Int32)) % (6 : Int32))) ((128 : Int32) ||| (i1 &&& (127 : Int32))) (own_j1_6_0 i2) (own_j1_6_0 i3) (own_j1_6_0 i4))), (.int (own_r3 ((1 : Int32) + ((i6 &&& (2147483647 : Int32)) % (6 : Int32))) (nar .byte (((128 : Int32) ||| (i1 &&& (127 : Int32))).toInt8.toInt32)) (nar .byte ((own_j1_6_0 i2).toInt8.toInt32)) (nar .byte ((own_j1_6_0 i3).toInt8.toInt32)) (nar .byte ((own_j1_6_0 i4).toInt8.toInt32))))])) _
          refine XS.icmpNo X30.here hx rfl (hb hby at_162) rfl (teq hc162_32).2 ?_
          show Steps p.tables e below (T30.setTop (mkF m 165 #[.val (.int i1), .val (.int i2), .val (.int i3), .val (.int i4), .val (.int i5), .val (.int i6), .val (.int (0 : Int32)), .val (.int ((128 : Int32) ||| (i1 &&& (127 : Int32)))), .val (.int (own_j1_6_0 i2)), .val (.int (own_j1_6_0 i3)), .val (.int (own_j1_6_0 i4)), .val (.int (((i5.toUInt32 >>> ((8 : Int32) &&& 31).toUInt32).toInt32).toInt8.toInt32)), .val (.ref b7), .val (.int ((1 : Int32) + ((i6 &&& (2147483647 : Int32)) % (6 : Int32)))), .val (.int (own_r2 (0 : Int32) ((1 : Int32) + ((i6 &&& (2147483647 : Int32)) % (6 : Int32))) ((128 : Int32) ||| (i1 &&& (127 : Int32))) (own_j1_6_0 i2) (own_j1_6_0 i3) (own_j1_6_0 i4)))] [])) _
          refine XS.iconst X30.here hx rfl (hb hby at_165) ?_
          show Steps p.tables e below (T30.setTop (mkF m 166 #[.val (.int i1), .val (.int i2), .val (.int i3), .val (.int i4), .val (.int i5), .val (.int i6), .val (.int (0 : Int32)), .val (.int ((128 : Int32) ||| (i1 &&& (127 : Int32)))), .val (.int (own_j1_6_0 i2)), .val (.int (own_j1_6_0 i3)), .val (.int (own_j1_6_0 i4)), .val (.int (((i5.toUInt32 >>> ((8 : Int32) &&& 31).toUInt32).toInt32).toInt8.toInt32)), .val (.ref b7), .val (.int ((1 : Int32) + ((i6 &&& (2147483647 : Int32)) % (6 : Int32)))), .val (.int (own_r2 (0 : Int32) ((1 : Int32) + ((i6 &&& (2147483647 : Int32)) % (6 : Int32))) ((128 : Int32) ||| (i1 &&& (127 : Int32))) (own_j1_6_0 i2) (own_j1_6_0 i3) (own_j1_6_0 i4)))] [(.int (1 : Int32))])) _
          refine XS.goto X30.here hx rfl (pc0 := 166) (pc' := 170) rfl (hb hby at_166) (by decide) (by decide) ?_
          exact k
        exact fun t k => pre33 t (by rw [show (own_j0_162_0 i1 i2 i3 i4 i6) = (1 : Int32) from (if_pos hc162_32)] at k; exact k)
      · have pre34 : ∀ t, Steps p.tables e below (T30.setTop (mkF m 170 #[.val (.int i1), .val (.int i2), .val (.int i3), .val (.int i4), .val (.int i5), .val (.int i6), .val (.int (0 : Int32)), .val (.int ((128 : Int32) ||| (i1 &&& (127 : Int32)))), .val (.int (own_j1_6_0 i2)), .val (.int (own_j1_6_0 i3)), .val (.int (own_j1_6_0 i4)), .val (.int (((i5.toUInt32 >>> ((8 : Int32) &&& 31).toUInt32).toInt32).toInt8.toInt32)), .val (.ref b7), .val (.int ((1 : Int32) + ((i6 &&& (2147483647 : Int32)) % (6 : Int32)))), .val (.int (own_r2 (0 : Int32) ((1 : Int32) + ((i6 &&& (2147483647 : Int32)) % (6 : Int32))) ((128 : Int32) ||| (i1 &&& (127 : Int32))) (own_j1_6_0 i2) (own_j1_6_0 i3) (own_j1_6_0 i4)))] [(.int (0 : Int32))])) t → Steps p.tables e below (s₁.setTop (entryFrame m #[(.int i1), (.int i2), (.int i3), (.int i4), (.int i5), (.int i6)] maxLocals)) t := by
          intro t k
          refine pre31 _ ?_
          show Steps p.tables e below (T30.setTop (mkF m 162 #[.val (.int i1), .val (.int i2), .val (.int i3), .val (.int i4), .val (.int i5), .val (.int i6), .val (.int (0 : Int32)), .val (.int ((128 : Int32) ||| (i1 &&& (127 : Int32)))), .val (.int (own_j1_6_0 i2)), .val (.int (own_j1_6_0 i3)), .val (.int (own_j1_6_0 i4)), .val (.int (((i5.toUInt32 >>> ((8 : Int32) &&& 31).toUInt32).toInt32).toInt8.toInt32)), .val (.ref b7), .val (.int ((1 : Int32) + ((i6 &&& (2147483647 : Int32)) % (6 : Int32)))), .val (.int (own_r2 (0 : Int32) ((1 : Int32) + ((i6 &&& (2147483647 : Int32)) % (6 : Int32))) ((128 : Int32) ||| (i1 &&& (127 : Int32))) (own_j1_6_0 i2) (own_j1_6_0 i3) (own_j1_6_0 i4)))] [(.int (own_r2 (0 : Int32) ((1 : Int32) + ((i6 &&& (2147483647 : Int32)) % (6 : Int32))) ((128 : Int32) ||| (i1 &&& (127 : Int32))) (own_j1_6_0 i2) (own_j1_6_0 i3) (own_j1_6_0 i4))), (.int (own_r3 ((1 : Int32) + ((i6 &&& (2147483647 : Int32)) % (6 : Int32))) (nar .byte (((128 : Int32) ||| (i1 &&& (127 : Int32))).toInt8.toInt32)) (nar .byte ((own_j1_6_0 i2).toInt8.toInt32)) (nar .byte ((own_j1_6_0 i3).toInt8.toInt32)) (nar .byte ((own_j1_6_0 i4).toInt8.toInt32))))])) _
          refine XS.icmpYes X30.here hx rfl (pc0 := 162) (pc' := 169) rfl (hb hby at_162) rfl (feq hc162_32).2 (by decide) (by decide) ?_
          show Steps p.tables e below (T30.setTop (mkF m 169 #[.val (.int i1), .val (.int i2), .val (.int i3), .val (.int i4), .val (.int i5), .val (.int i6), .val (.int (0 : Int32)), .val (.int ((128 : Int32) ||| (i1 &&& (127 : Int32)))), .val (.int (own_j1_6_0 i2)), .val (.int (own_j1_6_0 i3)), .val (.int (own_j1_6_0 i4)), .val (.int (((i5.toUInt32 >>> ((8 : Int32) &&& 31).toUInt32).toInt32).toInt8.toInt32)), .val (.ref b7), .val (.int ((1 : Int32) + ((i6 &&& (2147483647 : Int32)) % (6 : Int32)))), .val (.int (own_r2 (0 : Int32) ((1 : Int32) + ((i6 &&& (2147483647 : Int32)) % (6 : Int32))) ((128 : Int32) ||| (i1 &&& (127 : Int32))) (own_j1_6_0 i2) (own_j1_6_0 i3) (own_j1_6_0 i4)))] [])) _
          refine XS.iconst X30.here hx rfl (hb hby at_169) ?_
          exact k
        exact fun t k => pre34 t (by rw [show (own_j0_162_0 i1 i2 i3 i4 i6) = (0 : Int32) from (if_neg hc162_32)] at k; exact k)
    obtain ⟨fs, hr, hrun, hended, hW, hsame⟩ := X30.leave (v := some (.int (nar .boolean (own_j0_162_0 i1 i2 i3 i4 i6)))) (fun h => by rw [Bd.returns] at h; cases h)
    refine ⟨_, _, pre35 _ ?_, hrun, hended, _, _, rfl, ?_, ⟨_, rfl⟩, hW, hsame.mono (by decide) (by decide)⟩
    · show Steps p.tables e below (T30.setTop (mkF m 170 #[.val (.int i1), .val (.int i2), .val (.int i3), .val (.int i4), .val (.int i5), .val (.int i6), .val (.int (0 : Int32)), .val (.int ((128 : Int32) ||| (i1 &&& (127 : Int32)))), .val (.int (own_j1_6_0 i2)), .val (.int (own_j1_6_0 i3)), .val (.int (own_j1_6_0 i4)), .val (.int (((i5.toUInt32 >>> ((8 : Int32) &&& 31).toUInt32).toInt32).toInt8.toInt32)), .val (.ref b7), .val (.int ((1 : Int32) + ((i6 &&& (2147483647 : Int32)) % (6 : Int32)))), .val (.int (own_r2 (0 : Int32) ((1 : Int32) + ((i6 &&& (2147483647 : Int32)) % (6 : Int32))) ((128 : Int32) ||| (i1 &&& (127 : Int32))) (own_j1_6_0 i2) (own_j1_6_0 i3) (own_j1_6_0 i4)))] [(.int (own_j0_162_0 i1 i2 i3 i4 i6))])) _
      exact retN X30 hx (t := .boolean) Bd.returns (by simp) (hb hby at_170) hr
    · show Q0 Z i1 i2 i3 i4 i5 i6 h0 n0 _ T30.heap _
      rw [e30]
      exact ⟨congrArg (fun z => some (Value.int z)) (show (own_r0 i1 i2 i3 i4 i5 i6) = (nar .boolean (own_j0_162_0 i1 i2 i3 i4 i6)) from (if_pos hk2)).symm, N30⟩
  · have pre36 : ∀ t, Steps p.tables e below (s₁.setTop (mkF m 6 #[.val (.int i1), .val (.int i2), .val (.int i3), .val (.int i4), .val (.int i5), .val (.int i6), .val (.int (1 : Int32)), .unset, .unset, .unset, .unset, .unset, .unset, .unset, .unset] [])) t → Steps p.tables e below (s₁.setTop (entryFrame m #[(.int i1), (.int i2), (.int i3), (.int i4), (.int i5), (.int i6)] maxLocals)) t := fun t k => pre1 t (by rw [hk2]; exact k)
    obtain ⟨_, _, ⟨T37, L37, k37, n37⟩, -, X37, ⟨Lc37, hQ37, l37, y37, z37⟩, st37⟩ := Jvm.LawKit.callS X0 hx (y := (⟨"com/example/terseform/terseform/codec/CborTextStringUtf8SequenceEndPinLaw", "cont", "(I)I"⟩ : MethodName)) hown (mvT hZ (hw _ (List.mem_of_getElem? (i := 0) rfl))) (mvT hZ (hw _ (List.mem_of_getElem? (i := 1) rfl))) (mvT hZ (hw _ (List.mem_of_getElem? (i := 2) rfl))) (mvT hZ (hw _ (List.mem_of_getElem? (i := 3) rfl))) (by decide) (backOf (W := 0) (rm1 l Z a0 hw [] i2 h0 n0 (Nat.le_trans Z0 (Keep.refl h0 []).1) ) hZ (hw _ (List.mem_of_getElem? (i := 3) rfl)) (hw _ (List.mem_of_getElem? (i := 2) rfl)) (by decide) (by decide)) (g := (mkF m 17 #[.val (.int i1), .val (.int i2), .val (.int i3), .val (.int i4), .val (.int i5), .val (.int i6), .val (.int (1 : Int32)), .val (.int ((128 : Int32) ||| (i1 &&& (127 : Int32)))), .unset, .unset, .unset, .unset, .unset, .unset, .unset] [(.int i2)])) rfl (by rw [hml]; rfl) (argsL := [(.int i2)]) (rest := []) (lenOf pd_0 rfl) rfl (by show 2 * 0 + _ ≤ _; exact Nat.le_of_eq rfl) (hb hby at_17) (fun _ _ => ⟨rfl, e0, (by decide : 0 + 0 ≤ _), (by decide : 0 + 0 ≤ _)⟩)
    dsimp only [Pt.U, Pt.locs, Pt.cells, Pt.slots] at X37 l37 y37 z37 st37 hQ37
    subst l37 y37 z37
    obtain ⟨rfl, Nq37, e37⟩ := hQ37
    have N37 := Fr.app N0 Nq37
    obtain ⟨_, _, ⟨T38, L38, k38, n38⟩, -, X38, ⟨Lc38, hQ38, l38, y38, z38⟩, st38⟩ := Jvm.LawKit.callS X37 hx (y := (⟨"com/example/terseform/terseform/codec/CborTextStringUtf8SequenceEndPinLaw", "cont", "(I)I"⟩ : MethodName)) hown (mvT hZ (hw _ (List.mem_of_getElem? (i := 0) rfl))) (mvT hZ (hw _ (List.mem_of_getElem? (i := 1) rfl))) (mvT hZ (hw _ (List.mem_of_getElem? (i := 2) rfl))) (mvT hZ (hw _ (List.mem_of_getElem? (i := 3) rfl))) (by decide) (backOf (W := 0) (rm1 l Z a0 hw [] i3 h0 n0 (Nat.le_trans Z0 (Keep.refl h0 []).1) ) hZ (hw _ (List.mem_of_getElem? (i := 3) rfl)) (hw _ (List.mem_of_getElem? (i := 2) rfl)) (by decide) (by decide)) (g := (mkF m 23 #[.val (.int i1), .val (.int i2), .val (.int i3), .val (.int i4), .val (.int i5), .val (.int i6), .val (.int (1 : Int32)), .val (.int ((128 : Int32) ||| (i1 &&& (127 : Int32)))), .val (.int (own_j1_6_0 i2)), .unset, .unset, .unset, .unset, .unset, .unset] [(.int i3)])) rfl (by rw [hml]; rfl) (argsL := [(.int i3)]) (rest := []) (lenOf pd_0 rfl) rfl (by show 2 * 0 + _ ≤ _; exact Nat.le_of_eq rfl) (hb hby at_23) (fun _ _ => ⟨rfl, e37, (by decide : 0 + 0 ≤ _), (by decide : 0 + 0 ≤ _)⟩)
    dsimp only [Pt.U, Pt.locs, Pt.cells, Pt.slots] at X38 l38 y38 z38 st38 hQ38
    subst l38 y38 z38
    obtain ⟨rfl, Nq38, e38⟩ := hQ38
    have N38 := Fr.app N37 Nq38
    obtain ⟨_, _, ⟨T39, L39, k39, n39⟩, -, X39, ⟨Lc39, hQ39, l39, y39, z39⟩, st39⟩ := Jvm.LawKit.callS X38 hx (y := (⟨"com/example/terseform/terseform/codec/CborTextStringUtf8SequenceEndPinLaw", "cont", "(I)I"⟩ : MethodName)) hown (mvT hZ (hw _ (List.mem_of_getElem? (i := 0) rfl))) (mvT hZ (hw _ (List.mem_of_getElem? (i := 1) rfl))) (mvT hZ (hw _ (List.mem_of_getElem? (i := 2) rfl))) (mvT hZ (hw _ (List.mem_of_getElem? (i := 3) rfl))) (by decide) (backOf (W := 0) (rm1 l Z a0 hw [] i4 h0 n0 (Nat.le_trans Z0 (Keep.refl h0 []).1) ) hZ (hw _ (List.mem_of_getElem? (i := 3) rfl)) (hw _ (List.mem_of_getElem? (i := 2) rfl)) (by decide) (by decide)) (g := (mkF m 29 #[.val (.int i1), .val (.int i2), .val (.int i3), .val (.int i4), .val (.int i5), .val (.int i6), .val (.int (1 : Int32)), .val (.int ((128 : Int32) ||| (i1 &&& (127 : Int32)))), .val (.int (own_j1_6_0 i2)), .val (.int (own_j1_6_0 i3)), .unset, .unset, .unset, .unset, .unset] [(.int i4)])) rfl (by rw [hml]; rfl) (argsL := [(.int i4)]) (rest := []) (lenOf pd_0 rfl) rfl (by show 2 * 0 + _ ≤ _; exact Nat.le_of_eq rfl) (hb hby at_29) (fun _ _ => ⟨rfl, e38, (by decide : 0 + 0 ≤ _), (by decide : 0 + 0 ≤ _)⟩)
    dsimp only [Pt.U, Pt.locs, Pt.cells, Pt.slots] at X39 l39 y39 z39 st39 hQ39
    subst l39 y39 z39
    obtain ⟨rfl, Nq39, e39⟩ := hQ39
    have N39 := Fr.app N38 Nq39
    obtain ⟨T40, h40, k40, X40, e40, E40, A40, st40⟩ := newP X39 hx hZ (hw _ (List.mem_of_getElem? (i := 4) rfl)) e39 (g := (mkF m 44 #[.val (.int i1), .val (.int i2), .val (.int i3), .val (.int i4), .val (.int i5), .val (.int i6), .val (.int (1 : Int32)), .val (.int ((128 : Int32) ||| (i1 &&& (127 : Int32)))), .val (.int (own_j1_6_0 i2)), .val (.int (own_j1_6_0 i3)), .val (.int (own_j1_6_0 i4)), .val (.int (((i5.toUInt32 >>> ((8 : Int32) &&& 31).toUInt32).toInt32).toInt8.toInt32)), .unset, .unset, .unset] [(.int (6 : Int32))])) rfl (hb hby at_44) rfl (by decide) (cap := 6) (by decide) (by decide) (by decide) (by decide)
    obtain ⟨b40, g40⟩ : ∃ z, z = h0.size := ⟨_, rfl⟩
    rw [← g40] at A40 st40
    have sz_b40 : h0.size ≤ b40 := Nat.le_trans (Keep.refl h0 []).1 (Nat.le_of_eq g40.symm)
    have K41 : Keep h0 h40 [] := (Keep.refl h0 []).ext E40
    have V40 : Arv Z h40 b40 k40 .byte (6 : Int32) [(.int (0 : Int32)), (.int (0 : Int32)), (.int (0 : Int32)), (.int (0 : Int32)), (.int (0 : Int32)), (.int (0 : Int32))] (.int (0 : Int32)) := (Arv.new A40 (by decide)).pad (pad_rep [] (.int (0 : Int32)) 6)
    obtain ⟨cl42, Ar42, Cq42, Sz42, Nn42, Hh42, Gg42⟩ := id V40
    have hin42 : ¬ ((0 : Int32) < 0 ∨ cl42.slots.size ≤ ((0 : Int32)).toNatClampNeg) := inb_of Sz42 ⟨by decide, by decide⟩
    obtain ⟨T42, h42, X42, e42, W42, st42⟩ := stB X40 hx hZ e40 Ar42 (j := (0 : Int32)) hin42 (g := (mkF m 50 #[.val (.int i1), .val (.int i2), .val (.int i3), .val (.int i4), .val (.int i5), .val (.int i6), .val (.int (1 : Int32)), .val (.int ((128 : Int32) ||| (i1 &&& (127 : Int32)))), .val (.int (own_j1_6_0 i2)), .val (.int (own_j1_6_0 i3)), .val (.int (own_j1_6_0 i4)), .val (.int (((i5.toUInt32 >>> ((8 : Int32) &&& 31).toUInt32).toInt32).toInt8.toInt32)), .unset, .unset, .unset] [(.int (((i5.toUInt32 >>> ((8 : Int32) &&& 31).toUInt32).toInt32).toInt8.toInt32)), (.int (0 : Int32)), (.ref b40), (.ref b40)])) rfl rfl (hb hby at_50)
    have V42 : Arv Z h42 b40 k40 .byte (6 : Int32) [(.int (nar .byte (((i5.toUInt32 >>> ((8 : Int32) &&& 31).toUInt32).toInt32).toInt8.toInt32))), (.int (0 : Int32)), (.int (0 : Int32)), (.int (0 : Int32)), (.int (0 : Int32)), (.int (0 : Int32))] (.int (0 : Int32)) := Arv.set Ar42 Cq42 Sz42 Nn42 Hh42 Gg42 (fits_nar_byte _) W42 0 rfl (Nat.le_of_ble_eq_true rfl)
    have N42 := Fr.snoc X42 N39 (Nat.le_trans Z0 sz_b40)
    have K43 : Keep h0 h42 [] := K41.wr W42 (Or.inr sz_b40)
    obtain ⟨cl44, Ar44, Cq44, Sz44, Nn44, Hh44, Gg44⟩ := id V42
    have hin44 : ¬ ((1 : Int32) < 0 ∨ cl44.slots.size ≤ ((1 : Int32)).toNatClampNeg) := inb_of Sz44 ⟨by decide, by decide⟩
    obtain ⟨T44, h44, X44, e44, W44, st44⟩ := stB X42 hx hZ e42 Ar44 (j := (1 : Int32)) hin44 (g := (mkF m 55 #[.val (.int i1), .val (.int i2), .val (.int i3), .val (.int i4), .val (.int i5), .val (.int i6), .val (.int (1 : Int32)), .val (.int ((128 : Int32) ||| (i1 &&& (127 : Int32)))), .val (.int (own_j1_6_0 i2)), .val (.int (own_j1_6_0 i3)), .val (.int (own_j1_6_0 i4)), .val (.int (((i5.toUInt32 >>> ((8 : Int32) &&& 31).toUInt32).toInt32).toInt8.toInt32)), .unset, .unset, .unset] [(.int (((i5.toUInt32 >>> ((8 : Int32) &&& 31).toUInt32).toInt32).toInt8.toInt32)), (.int (1 : Int32)), (.ref b40), (.ref b40)])) rfl rfl (hb hby at_55)
    have V44 : Arv Z h44 b40 k40 .byte (6 : Int32) [(.int (nar .byte (((i5.toUInt32 >>> ((8 : Int32) &&& 31).toUInt32).toInt32).toInt8.toInt32))), (.int (nar .byte (((i5.toUInt32 >>> ((8 : Int32) &&& 31).toUInt32).toInt32).toInt8.toInt32))), (.int (0 : Int32)), (.int (0 : Int32)), (.int (0 : Int32)), (.int (0 : Int32))] (.int (0 : Int32)) := Arv.set Ar44 Cq44 Sz44 Nn44 Hh44 Gg44 (fits_nar_byte _) W44 1 rfl (Nat.le_of_ble_eq_true rfl)
    have N44 := Fr.snoc X44 N42 (Nat.le_trans Z0 sz_b40)
    have K45 : Keep h0 h44 [] := K43.wr W44 (Or.inr sz_b40)
    obtain ⟨cl46, Ar46, Cq46, Sz46, Nn46, Hh46, Gg46⟩ := id V44
    have hin46 : ¬ ((2 : Int32) < 0 ∨ cl46.slots.size ≤ ((2 : Int32)).toNatClampNeg) := inb_of Sz46 ⟨by decide, by decide⟩
    obtain ⟨T46, h46, X46, e46, W46, st46⟩ := stB X44 hx hZ e44 Ar46 (j := (2 : Int32)) hin46 (g := (mkF m 60 #[.val (.int i1), .val (.int i2), .val (.int i3), .val (.int i4), .val (.int i5), .val (.int i6), .val (.int (1 : Int32)), .val (.int ((128 : Int32) ||| (i1 &&& (127 : Int32)))), .val (.int (own_j1_6_0 i2)), .val (.int (own_j1_6_0 i3)), .val (.int (own_j1_6_0 i4)), .val (.int (((i5.toUInt32 >>> ((8 : Int32) &&& 31).toUInt32).toInt32).toInt8.toInt32)), .unset, .unset, .unset] [(.int (((i5.toUInt32 >>> ((8 : Int32) &&& 31).toUInt32).toInt32).toInt8.toInt32)), (.int (2 : Int32)), (.ref b40), (.ref b40)])) rfl rfl (hb hby at_60)
    have V46 : Arv Z h46 b40 k40 .byte (6 : Int32) [(.int (nar .byte (((i5.toUInt32 >>> ((8 : Int32) &&& 31).toUInt32).toInt32).toInt8.toInt32))), (.int (nar .byte (((i5.toUInt32 >>> ((8 : Int32) &&& 31).toUInt32).toInt32).toInt8.toInt32))), (.int (nar .byte (((i5.toUInt32 >>> ((8 : Int32) &&& 31).toUInt32).toInt32).toInt8.toInt32))), (.int (0 : Int32)), (.int (0 : Int32)), (.int (0 : Int32))] (.int (0 : Int32)) := Arv.set Ar46 Cq46 Sz46 Nn46 Hh46 Gg46 (fits_nar_byte _) W46 2 rfl (Nat.le_of_ble_eq_true rfl)
    have N46 := Fr.snoc X46 N44 (Nat.le_trans Z0 sz_b40)
    have K47 : Keep h0 h46 [] := K45.wr W46 (Or.inr sz_b40)
    obtain ⟨cl48, Ar48, Cq48, Sz48, Nn48, Hh48, Gg48⟩ := id V46
    have hin48 : ¬ ((3 : Int32) < 0 ∨ cl48.slots.size ≤ ((3 : Int32)).toNatClampNeg) := inb_of Sz48 ⟨by decide, by decide⟩
    obtain ⟨T48, h48, X48, e48, W48, st48⟩ := stB X46 hx hZ e46 Ar48 (j := (3 : Int32)) hin48 (g := (mkF m 65 #[.val (.int i1), .val (.int i2), .val (.int i3), .val (.int i4), .val (.int i5), .val (.int i6), .val (.int (1 : Int32)), .val (.int ((128 : Int32) ||| (i1 &&& (127 : Int32)))), .val (.int (own_j1_6_0 i2)), .val (.int (own_j1_6_0 i3)), .val (.int (own_j1_6_0 i4)), .val (.int (((i5.toUInt32 >>> ((8 : Int32) &&& 31).toUInt32).toInt32).toInt8.toInt32)), .unset, .unset, .unset] [(.int (((i5.toUInt32 >>> ((8 : Int32) &&& 31).toUInt32).toInt32).toInt8.toInt32)), (.int (3 : Int32)), (.ref b40), (.ref b40)])) rfl rfl (hb hby at_65)
    have V48 : Arv Z h48 b40 k40 .byte (6 : Int32) [(.int (nar .byte (((i5.toUInt32 >>> ((8 : Int32) &&& 31).toUInt32).toInt32).toInt8.toInt32))), (.int (nar .byte (((i5.toUInt32 >>> ((8 : Int32) &&& 31).toUInt32).toInt32).toInt8.toInt32))), (.int (nar .byte (((i5.toUInt32 >>> ((8 : Int32) &&& 31).toUInt32).toInt32).toInt8.toInt32))), (.int (nar .byte (((i5.toUInt32 >>> ((8 : Int32) &&& 31).toUInt32).toInt32).toInt8.toInt32))), (.int (0 : Int32)), (.int (0 : Int32))] (.int (0 : Int32)) := Arv.set Ar48 Cq48 Sz48 Nn48 Hh48 Gg48 (fits_nar_byte _) W48 3 rfl (Nat.le_of_ble_eq_true rfl)
    have N48 := Fr.snoc X48 N46 (Nat.le_trans Z0 sz_b40)
    have K49 : Keep h0 h48 [] := K47.wr W48 (Or.inr sz_b40)
    obtain ⟨cl50, Ar50, Cq50, Sz50, Nn50, Hh50, Gg50⟩ := id V48
    have hin50 : ¬ ((4 : Int32) < 0 ∨ cl50.slots.size ≤ ((4 : Int32)).toNatClampNeg) := inb_of Sz50 ⟨by decide, by decide⟩
    obtain ⟨T50, h50, X50, e50, W50, st50⟩ := stB X48 hx hZ e48 Ar50 (j := (4 : Int32)) hin50 (g := (mkF m 70 #[.val (.int i1), .val (.int i2), .val (.int i3), .val (.int i4), .val (.int i5), .val (.int i6), .val (.int (1 : Int32)), .val (.int ((128 : Int32) ||| (i1 &&& (127 : Int32)))), .val (.int (own_j1_6_0 i2)), .val (.int (own_j1_6_0 i3)), .val (.int (own_j1_6_0 i4)), .val (.int (((i5.toUInt32 >>> ((8 : Int32) &&& 31).toUInt32).toInt32).toInt8.toInt32)), .unset, .unset, .unset] [(.int (((i5.toUInt32 >>> ((8 : Int32) &&& 31).toUInt32).toInt32).toInt8.toInt32)), (.int (4 : Int32)), (.ref b40), (.ref b40)])) rfl rfl (hb hby at_70)
    have V50 : Arv Z h50 b40 k40 .byte (6 : Int32) [(.int (nar .byte (((i5.toUInt32 >>> ((8 : Int32) &&& 31).toUInt32).toInt32).toInt8.toInt32))), (.int (nar .byte (((i5.toUInt32 >>> ((8 : Int32) &&& 31).toUInt32).toInt32).toInt8.toInt32))), (.int (nar .byte (((i5.toUInt32 >>> ((8 : Int32) &&& 31).toUInt32).toInt32).toInt8.toInt32))), (.int (nar .byte (((i5.toUInt32 >>> ((8 : Int32) &&& 31).toUInt32).toInt32).toInt8.toInt32))), (.int (nar .byte (((i5.toUInt32 >>> ((8 : Int32) &&& 31).toUInt32).toInt32).toInt8.toInt32))), (.int (0 : Int32))] (.int (0 : Int32)) := Arv.set Ar50 Cq50 Sz50 Nn50 Hh50 Gg50 (fits_nar_byte _) W50 4 rfl (Nat.le_of_ble_eq_true rfl)
    have N50 := Fr.snoc X50 N48 (Nat.le_trans Z0 sz_b40)
    have K51 : Keep h0 h50 [] := K49.wr W50 (Or.inr sz_b40)
    obtain ⟨cl52, Ar52, Cq52, Sz52, Nn52, Hh52, Gg52⟩ := id V50
    have hin52 : ¬ ((5 : Int32) < 0 ∨ cl52.slots.size ≤ ((5 : Int32)).toNatClampNeg) := inb_of Sz52 ⟨by decide, by decide⟩
    obtain ⟨T52, h52, X52, e52, W52, st52⟩ := stB X50 hx hZ e50 Ar52 (j := (5 : Int32)) hin52 (g := (mkF m 75 #[.val (.int i1), .val (.int i2), .val (.int i3), .val (.int i4), .val (.int i5), .val (.int i6), .val (.int (1 : Int32)), .val (.int ((128 : Int32) ||| (i1 &&& (127 : Int32)))), .val (.int (own_j1_6_0 i2)), .val (.int (own_j1_6_0 i3)), .val (.int (own_j1_6_0 i4)), .val (.int (((i5.toUInt32 >>> ((8 : Int32) &&& 31).toUInt32).toInt32).toInt8.toInt32)), .unset, .unset, .unset] [(.int (((i5.toUInt32 >>> ((8 : Int32) &&& 31).toUInt32).toInt32).toInt8.toInt32)), (.int (5 : Int32)), (.ref b40), (.ref b40)])) rfl rfl (hb hby at_75)
    have V52 : Arv Z h52 b40 k40 .byte (6 : Int32) [(.int (nar .byte (((i5.toUInt32 >>> ((8 : Int32) &&& 31).toUInt32).toInt32).toInt8.toInt32))), (.int (nar .byte (((i5.toUInt32 >>> ((8 : Int32) &&& 31).toUInt32).toInt32).toInt8.toInt32))), (.int (nar .byte (((i5.toUInt32 >>> ((8 : Int32) &&& 31).toUInt32).toInt32).toInt8.toInt32))), (.int (nar .byte (((i5.toUInt32 >>> ((8 : Int32) &&& 31).toUInt32).toInt32).toInt8.toInt32))), (.int (nar .byte (((i5.toUInt32 >>> ((8 : Int32) &&& 31).toUInt32).toInt32).toInt8.toInt32))), (.int (nar .byte (((i5.toUInt32 >>> ((8 : Int32) &&& 31).toUInt32).toInt32).toInt8.toInt32)))] (.int (0 : Int32)) := Arv.set Ar52 Cq52 Sz52 Nn52 Hh52 Gg52 (fits_nar_byte _) W52 5 rfl (Nat.le_of_ble_eq_true rfl)
    have N52 := Fr.snoc X52 N50 (Nat.le_trans Z0 sz_b40)
    have K53 : Keep h0 h52 [] := K51.wr W52 (Or.inr sz_b40)
    obtain ⟨cl54, Ar54, Cq54, Sz54, Nn54, Hh54, Gg54⟩ := id V52
    have hin54 : ¬ ((1 : Int32) < 0 ∨ cl54.slots.size ≤ ((1 : Int32)).toNatClampNeg) := inb_of Sz54 ⟨by decide, by decide⟩
    obtain ⟨T54, h54, X54, e54, W54, st54⟩ := stB X52 hx hZ e52 Ar54 (j := (1 : Int32)) hin54 (g := (mkF m 85 #[.val (.int i1), .val (.int i2), .val (.int i3), .val (.int i4), .val (.int i5), .val (.int i6), .val (.int (1 : Int32)), .val (.int ((128 : Int32) ||| (i1 &&& (127 : Int32)))), .val (.int (own_j1_6_0 i2)), .val (.int (own_j1_6_0 i3)), .val (.int (own_j1_6_0 i4)), .val (.int (((i5.toUInt32 >>> ((8 : Int32) &&& 31).toUInt32).toInt32).toInt8.toInt32)), .val (.ref b40), .unset, .unset] [(.int (((128 : Int32) ||| (i1 &&& (127 : Int32))).toInt8.toInt32)), (.int (1 : Int32)), (.ref b40)])) rfl rfl (hb hby at_85)
    have V54 : Arv Z h54 b40 k40 .byte (6 : Int32) [(.int (nar .byte (((i5.toUInt32 >>> ((8 : Int32) &&& 31).toUInt32).toInt32).toInt8.toInt32))), (.int (nar .byte (((128 : Int32) ||| (i1 &&& (127 : Int32))).toInt8.toInt32))), (.int (nar .byte (((i5.toUInt32 >>> ((8 : Int32) &&& 31).toUInt32).toInt32).toInt8.toInt32))), (.int (nar .byte (((i5.toUInt32 >>> ((8 : Int32) &&& 31).toUInt32).toInt32).toInt8.toInt32))), (.int (nar .byte (((i5.toUInt32 >>> ((8 : Int32) &&& 31).toUInt32).toInt32).toInt8.toInt32))), (.int (nar .byte (((i5.toUInt32 >>> ((8 : Int32) &&& 31).toUInt32).toInt32).toInt8.toInt32)))] (.int (0 : Int32)) := Arv.set Ar54 Cq54 Sz54 Nn54 Hh54 Gg54 (fits_nar_byte _) W54 1 rfl (Nat.le_of_ble_eq_true rfl)
    have N54 := Fr.snoc X54 N52 (Nat.le_trans Z0 sz_b40)
    have K55 : Keep h0 h54 [] := K53.wr W54 (Or.inr sz_b40)
    obtain ⟨cl56, Ar56, Cq56, Sz56, Nn56, Hh56, Gg56⟩ := id V54
    have hin56 : ¬ ((2 : Int32) < 0 ∨ cl56.slots.size ≤ ((2 : Int32)).toNatClampNeg) := inb_of Sz56 ⟨by decide, by decide⟩
    obtain ⟨T56, h56, X56, e56, W56, st56⟩ := stB X54 hx hZ e54 Ar56 (j := (2 : Int32)) hin56 (g := (mkF m 95 #[.val (.int i1), .val (.int i2), .val (.int i3), .val (.int i4), .val (.int i5), .val (.int i6), .val (.int (1 : Int32)), .val (.int ((128 : Int32) ||| (i1 &&& (127 : Int32)))), .val (.int (own_j1_6_0 i2)), .val (.int (own_j1_6_0 i3)), .val (.int (own_j1_6_0 i4)), .val (.int (((i5.toUInt32 >>> ((8 : Int32) &&& 31).toUInt32).toInt32).toInt8.toInt32)), .val (.ref b40), .unset, .unset] [(.int ((own_j1_6_0 i2).toInt8.toInt32)), (.int (2 : Int32)), (.ref b40)])) rfl rfl (hb hby at_95)
    have V56 : Arv Z h56 b40 k40 .byte (6 : Int32) [(.int (nar .byte (((i5.toUInt32 >>> ((8 : Int32) &&& 31).toUInt32).toInt32).toInt8.toInt32))), (.int (nar .byte (((128 : Int32) ||| (i1 &&& (127 : Int32))).toInt8.toInt32))), (.int (nar .byte ((own_j1_6_0 i2).toInt8.toInt32))), (.int (nar .byte (((i5.toUInt32 >>> ((8 : Int32) &&& 31).toUInt32).toInt32).toInt8.toInt32))), (.int (nar .byte (((i5.toUInt32 >>> ((8 : Int32) &&& 31).toUInt32).toInt32).toInt8.toInt32))), (.int (nar .byte (((i5.toUInt32 >>> ((8 : Int32) &&& 31).toUInt32).toInt32).toInt8.toInt32)))] (.int (0 : Int32)) := Arv.set Ar56 Cq56 Sz56 Nn56 Hh56 Gg56 (fits_nar_byte _) W56 2 rfl (Nat.le_of_ble_eq_true rfl)
    have N56 := Fr.snoc X56 N54 (Nat.le_trans Z0 sz_b40)
    have K57 : Keep h0 h56 [] := K55.wr W56 (Or.inr sz_b40)
    obtain ⟨cl58, Ar58, Cq58, Sz58, Nn58, Hh58, Gg58⟩ := id V56
    have hin58 : ¬ ((3 : Int32) < 0 ∨ cl58.slots.size ≤ ((3 : Int32)).toNatClampNeg) := inb_of Sz58 ⟨by decide, by decide⟩
    obtain ⟨T58, h58, X58, e58, W58, st58⟩ := stB X56 hx hZ e56 Ar58 (j := (3 : Int32)) hin58 (g := (mkF m 105 #[.val (.int i1), .val (.int i2), .val (.int i3), .val (.int i4), .val (.int i5), .val (.int i6), .val (.int (1 : Int32)), .val (.int ((128 : Int32) ||| (i1 &&& (127 : Int32)))), .val (.int (own_j1_6_0 i2)), .val (.int (own_j1_6_0 i3)), .val (.int (own_j1_6_0 i4)), .val (.int (((i5.toUInt32 >>> ((8 : Int32) &&& 31).toUInt32).toInt32).toInt8.toInt32)), .val (.ref b40), .unset, .unset] [(.int ((own_j1_6_0 i3).toInt8.toInt32)), (.int (3 : Int32)), (.ref b40)])) rfl rfl (hb hby at_105)
    have V58 : Arv Z h58 b40 k40 .byte (6 : Int32) [(.int (nar .byte (((i5.toUInt32 >>> ((8 : Int32) &&& 31).toUInt32).toInt32).toInt8.toInt32))), (.int (nar .byte (((128 : Int32) ||| (i1 &&& (127 : Int32))).toInt8.toInt32))), (.int (nar .byte ((own_j1_6_0 i2).toInt8.toInt32))), (.int (nar .byte ((own_j1_6_0 i3).toInt8.toInt32))), (.int (nar .byte (((i5.toUInt32 >>> ((8 : Int32) &&& 31).toUInt32).toInt32).toInt8.toInt32))), (.int (nar .byte (((i5.toUInt32 >>> ((8 : Int32) &&& 31).toUInt32).toInt32).toInt8.toInt32)))] (.int (0 : Int32)) := Arv.set Ar58 Cq58 Sz58 Nn58 Hh58 Gg58 (fits_nar_byte _) W58 3 rfl (Nat.le_of_ble_eq_true rfl)
    have N58 := Fr.snoc X58 N56 (Nat.le_trans Z0 sz_b40)
    have K59 : Keep h0 h58 [] := K57.wr W58 (Or.inr sz_b40)
    obtain ⟨cl60, Ar60, Cq60, Sz60, Nn60, Hh60, Gg60⟩ := id V58
    have hin60 : ¬ ((4 : Int32) < 0 ∨ cl60.slots.size ≤ ((4 : Int32)).toNatClampNeg) := inb_of Sz60 ⟨by decide, by decide⟩
    obtain ⟨T60, h60, X60, e60, W60, st60⟩ := stB X58 hx hZ e58 Ar60 (j := (4 : Int32)) hin60 (g := (mkF m 115 #[.val (.int i1), .val (.int i2), .val (.int i3), .val (.int i4), .val (.int i5), .val (.int i6), .val (.int (1 : Int32)), .val (.int ((128 : Int32) ||| (i1 &&& (127 : Int32)))), .val (.int (own_j1_6_0 i2)), .val (.int (own_j1_6_0 i3)), .val (.int (own_j1_6_0 i4)), .val (.int (((i5.toUInt32 >>> ((8 : Int32) &&& 31).toUInt32).toInt32).toInt8.toInt32)), .val (.ref b40), .unset, .unset] [(.int ((own_j1_6_0 i4).toInt8.toInt32)), (.int (4 : Int32)), (.ref b40)])) rfl rfl (hb hby at_115)
    have V60 : Arv Z h60 b40 k40 .byte (6 : Int32) [(.int (nar .byte (((i5.toUInt32 >>> ((8 : Int32) &&& 31).toUInt32).toInt32).toInt8.toInt32))), (.int (nar .byte (((128 : Int32) ||| (i1 &&& (127 : Int32))).toInt8.toInt32))), (.int (nar .byte ((own_j1_6_0 i2).toInt8.toInt32))), (.int (nar .byte ((own_j1_6_0 i3).toInt8.toInt32))), (.int (nar .byte ((own_j1_6_0 i4).toInt8.toInt32))), (.int (nar .byte (((i5.toUInt32 >>> ((8 : Int32) &&& 31).toUInt32).toInt32).toInt8.toInt32)))] (.int (0 : Int32)) := Arv.set Ar60 Cq60 Sz60 Nn60 Hh60 Gg60 (fits_nar_byte _) W60 4 rfl (Nat.le_of_ble_eq_true rfl)
    have N60 := Fr.snoc X60 N58 (Nat.le_trans Z0 sz_b40)
    have K61 : Keep h0 h60 [] := K59.wr W60 (Or.inr sz_b40)
    obtain ⟨_, _, ⟨T62, L62, k62, n62⟩, -, X62, ⟨Lc62, hQ62, l62, y62, z62⟩, st62⟩ := Jvm.LawKit.callS X60 hx (y := (⟨"com/example/terseform/terseform/codec/CborTextStringUtf8SequenceEndPinLaw", "expected", "(IIIIII)I"⟩ : MethodName)) hown (mvT hZ (hw _ (List.mem_of_getElem? (i := 6) rfl))) (mvT hZ (hw _ (List.mem_of_getElem? (i := 7) rfl))) (mvT hZ (hw _ (List.mem_of_getElem? (i := 2) rfl))) (mvT hZ (hw _ (List.mem_of_getElem? (i := 8) rfl))) (by decide) (backOf (W := 0) (rm2 l Z a0 hw [] (1 : Int32) ((2 : Int32) + ((i6 &&& (2147483647 : Int32)) % (5 : Int32))) ((128 : Int32) ||| (i1 &&& (127 : Int32))) (own_j1_6_0 i2) (own_j1_6_0 i3) (own_j1_6_0 i4) h60 n0 (Nat.le_trans Z0 K61.1) ) hZ (hw _ (List.mem_of_getElem? (i := 8) rfl)) (hw _ (List.mem_of_getElem? (i := 2) rfl)) (by decide) (by decide)) (g := (mkF m 146 #[.val (.int i1), .val (.int i2), .val (.int i3), .val (.int i4), .val (.int i5), .val (.int i6), .val (.int (1 : Int32)), .val (.int ((128 : Int32) ||| (i1 &&& (127 : Int32)))), .val (.int (own_j1_6_0 i2)), .val (.int (own_j1_6_0 i3)), .val (.int (own_j1_6_0 i4)), .val (.int (((i5.toUInt32 >>> ((8 : Int32) &&& 31).toUInt32).toInt32).toInt8.toInt32)), .val (.ref b40), .val (.int ((2 : Int32) + ((i6 &&& (2147483647 : Int32)) % (5 : Int32)))), .unset] [(.int (own_j1_6_0 i4)), (.int (own_j1_6_0 i3)), (.int (own_j1_6_0 i2)), (.int ((128 : Int32) ||| (i1 &&& (127 : Int32)))), (.int ((2 : Int32) + ((i6 &&& (2147483647 : Int32)) % (5 : Int32)))), (.int (1 : Int32))])) rfl (by rw [hml]; rfl) (argsL := [(.int (1 : Int32)), (.int ((2 : Int32) + ((i6 &&& (2147483647 : Int32)) % (5 : Int32)))), (.int ((128 : Int32) ||| (i1 &&& (127 : Int32)))), (.int (own_j1_6_0 i2)), (.int (own_j1_6_0 i3)), (.int (own_j1_6_0 i4))]) (rest := []) (lenOf pd_1 rfl) rfl (by show 2 * 0 + _ ≤ _; exact Nat.le_of_eq rfl) (hb hby at_146) (fun _ _ => ⟨rfl, e60, (by decide : 1 + 0 ≤ _), (by decide : 6 + 0 ≤ _)⟩)
    dsimp only [Pt.U, Pt.locs, Pt.cells, Pt.slots] at X62 l62 y62 z62 st62 hQ62
    subst l62 y62 z62
    obtain ⟨rfl, Nq62, e62⟩ := hQ62
    have N62 := Fr.app N60 Nq62
    obtain ⟨_, _, ⟨T63, L63, k63, n63⟩, -, X63, ⟨Lc63, hQ63, l63, y63, z63⟩, st63⟩ := Jvm.LawKit.callS X62 hx (y := (⟨"com/example/terseform/terseform/codec/CborTextString", "utf8SequenceEnd", "([BII)I"⟩ : MethodName)) hown (mvT hZ (hw _ (List.mem_of_getElem? (i := 9) rfl))) (mvT hZ (hw _ (List.mem_of_getElem? (i := 10) rfl))) (mvT hZ (hw _ (List.mem_of_getElem? (i := 11) rfl))) (mvT hZ (hw _ (List.mem_of_getElem? (i := 12) rfl))) (by decide) (backOf (W := 0) (rm3a l Z a0 hw [] b40 ((2 : Int32) + ((i6 &&& (2147483647 : Int32)) % (5 : Int32))) (nar .byte (((i5.toUInt32 >>> ((8 : Int32) &&& 31).toUInt32).toInt32).toInt8.toInt32)) (nar .byte (((128 : Int32) ||| (i1 &&& (127 : Int32))).toInt8.toInt32)) (nar .byte ((own_j1_6_0 i2).toInt8.toInt32)) (nar .byte ((own_j1_6_0 i3).toInt8.toInt32)) (nar .byte ((own_j1_6_0 i4).toInt8.toInt32)) (nar .byte (((i5.toUInt32 >>> ((8 : Int32) &&& 31).toUInt32).toInt32).toInt8.toInt32)) k40 h60 n0 (Nat.le_trans Z0 K61.1) V60) hZ (hw _ (List.mem_of_getElem? (i := 12) rfl)) (hw _ (List.mem_of_getElem? (i := 11) rfl)) (by decide) (by decide)) (g := (mkF m 157 #[.val (.int i1), .val (.int i2), .val (.int i3), .val (.int i4), .val (.int i5), .val (.int i6), .val (.int (1 : Int32)), .val (.int ((128 : Int32) ||| (i1 &&& (127 : Int32)))), .val (.int (own_j1_6_0 i2)), .val (.int (own_j1_6_0 i3)), .val (.int (own_j1_6_0 i4)), .val (.int (((i5.toUInt32 >>> ((8 : Int32) &&& 31).toUInt32).toInt32).toInt8.toInt32)), .val (.ref b40), .val (.int ((2 : Int32) + ((i6 &&& (2147483647 : Int32)) % (5 : Int32)))), .val (.int (own_r2 (1 : Int32) ((2 : Int32) + ((i6 &&& (2147483647 : Int32)) % (5 : Int32))) ((128 : Int32) ||| (i1 &&& (127 : Int32))) (own_j1_6_0 i2) (own_j1_6_0 i3) (own_j1_6_0 i4)))] [(.int ((2 : Int32) + ((i6 &&& (2147483647 : Int32)) % (5 : Int32)))), (.int (1 : Int32)), (.ref b40)])) rfl (by rw [hml]; rfl) (argsL := [(.ref b40), (.int (1 : Int32)), (.int ((2 : Int32) + ((i6 &&& (2147483647 : Int32)) % (5 : Int32))))]) (rest := []) (lenOf pd_2 rfl) rfl (by show 2 * 0 + _ ≤ _; exact Nat.le_of_eq rfl) (hb hby at_157) (fun _ _ => ⟨rfl, e62, (by decide : 1 + 0 ≤ _), (by decide : 6 + 0 ≤ _)⟩)
    dsimp only [Pt.U, Pt.locs, Pt.cells, Pt.slots] at X63 l63 y63 z63 st63 hQ63
    subst l63 y63 z63
    obtain ⟨rfl, Nq63, e63⟩ := hQ63
    have N63 := Fr.app N62 Nq63
    have pre64 : ∀ t, Steps p.tables e below (T63.setTop (mkF m 162 #[.val (.int i1), .val (.int i2), .val (.int i3), .val (.int i4), .val (.int i5), .val (.int i6), .val (.int (1 : Int32)), .val (.int ((128 : Int32) ||| (i1 &&& (127 : Int32)))), .val (.int (own_j1_6_0 i2)), .val (.int (own_j1_6_0 i3)), .val (.int (own_j1_6_0 i4)), .val (.int (((i5.toUInt32 >>> ((8 : Int32) &&& 31).toUInt32).toInt32).toInt8.toInt32)), .val (.ref b40), .val (.int ((2 : Int32) + ((i6 &&& (2147483647 : Int32)) % (5 : Int32)))), .val (.int (own_r2 (1 : Int32) ((2 : Int32) + ((i6 &&& (2147483647 : Int32)) % (5 : Int32))) ((128 : Int32) ||| (i1 &&& (127 : Int32))) (own_j1_6_0 i2) (own_j1_6_0 i3) (own_j1_6_0 i4)))] [(.int (own_r2 (1 : Int32) ((2 : Int32) + ((i6 &&& (2147483647 : Int32)) % (5 : Int32))) ((128 : Int32) ||| (i1 &&& (127 : Int32))) (own_j1_6_0 i2) (own_j1_6_0 i3) (own_j1_6_0 i4))), (.int (own_r3a ((2 : Int32) + ((i6 &&& (2147483647 : Int32)) % (5 : Int32))) (nar .byte (((128 : Int32) ||| (i1 &&& (127 : Int32))).toInt8.toInt32)) (nar .byte ((own_j1_6_0 i2).toInt8.toInt32)) (nar .byte ((own_j1_6_0 i3).toInt8.toInt32)) (nar .byte ((own_j1_6_0 i4).toInt8.toInt32))))])) t → Steps p.tables e below (s₁.setTop (entryFrame m #[(.int i1), (.int i2), (.int i3), (.int i4), (.int i5), (.int i6)] maxLocals)) t := by
      intro t k
      refine pre36 _ ?_
      show Steps p.tables e below (s₁.setTop (mkF m 6 #[.val (.int i1), .val (.int i2), .val (.int i3), .val (.int i4), .val (.int i5), .val (.int i6), .val (.int (1 : Int32)), .unset, .unset, .unset, .unset, .unset, .unset, .unset, .unset] [])) _
      refine XS.sipush X0.here hx rfl (hb hby at_6) ?_
      show Steps p.tables e below (s₁.setTop (mkF m 9 #[.val (.int i1), .val (.int i2), .val (.int i3), .val (.int i4), .val (.int i5), .val (.int i6), .val (.int (1 : Int32)), .unset, .unset, .unset, .unset, .unset, .unset, .unset, .unset] [(.int (128 : Int32))])) _
      refine XS.iloadN X0.here hx rfl (hb hby at_9) rfl ?_
      show Steps p.tables e below (s₁.setTop (mkF m 10 #[.val (.int i1), .val (.int i2), .val (.int i3), .val (.int i4), .val (.int i5), .val (.int i6), .val (.int (1 : Int32)), .unset, .unset, .unset, .unset, .unset, .unset, .unset, .unset] [(.int i1), (.int (128 : Int32))])) _
      refine XS.bipush X0.here hx rfl (hb hby at_10) ?_
      show Steps p.tables e below (s₁.setTop (mkF m 12 #[.val (.int i1), .val (.int i2), .val (.int i3), .val (.int i4), .val (.int i5), .val (.int i6), .val (.int (1 : Int32)), .unset, .unset, .unset, .unset, .unset, .unset, .unset, .unset] [(.int (127 : Int32)), (.int i1), (.int (128 : Int32))])) _
      refine XS.iand X0.here hx rfl (hb hby at_12) rfl ?_
      show Steps p.tables e below (s₁.setTop (mkF m 13 #[.val (.int i1), .val (.int i2), .val (.int i3), .val (.int i4), .val (.int i5), .val (.int i6), .val (.int (1 : Int32)), .unset, .unset, .unset, .unset, .unset, .unset, .unset, .unset] [(.int (i1 &&& (127 : Int32))), (.int (128 : Int32))])) _
      refine XS.ior X0.here hx rfl (hb hby at_13) rfl ?_
      show Steps p.tables e below (s₁.setTop (mkF m 14 #[.val (.int i1), .val (.int i2), .val (.int i3), .val (.int i4), .val (.int i5), .val (.int i6), .val (.int (1 : Int32)), .unset, .unset, .unset, .unset, .unset, .unset, .unset, .unset] [(.int ((128 : Int32) ||| (i1 &&& (127 : Int32))))])) _
      refine XS.istore X0.here hx rfl (hb hby at_14) rfl (l' := #[.val (.int i1), .val (.int i2), .val (.int i3), .val (.int i4), .val (.int i5), .val (.int i6), .val (.int (1 : Int32)), .val (.int ((128 : Int32) ||| (i1 &&& (127 : Int32)))), .unset, .unset, .unset, .unset, .unset, .unset, .unset]) rfl ?_
      show Steps p.tables e below (s₁.setTop (mkF m 16 #[.val (.int i1), .val (.int i2), .val (.int i3), .val (.int i4), .val (.int i5), .val (.int i6), .val (.int (1 : Int32)), .val (.int ((128 : Int32) ||| (i1 &&& (127 : Int32)))), .unset, .unset, .unset, .unset, .unset, .unset, .unset] [])) _
      refine XS.iloadN X0.here hx rfl (hb hby at_16) rfl ?_
      show Steps p.tables e below (s₁.setTop (mkF m 17 #[.val (.int i1), .val (.int i2), .val (.int i3), .val (.int i4), .val (.int i5), .val (.int i6), .val (.int (1 : Int32)), .val (.int ((128 : Int32) ||| (i1 &&& (127 : Int32)))), .unset, .unset, .unset, .unset, .unset, .unset, .unset] [(.int i2)])) _
      refine st37 _ ?_
      show Steps p.tables e below (T37.setTop (mkF m 20 #[.val (.int i1), .val (.int i2), .val (.int i3), .val (.int i4), .val (.int i5), .val (.int i6), .val (.int (1 : Int32)), .val (.int ((128 : Int32) ||| (i1 &&& (127 : Int32)))), .unset, .unset, .unset, .unset, .unset, .unset, .unset] [(.int (own_j1_6_0 i2))])) _
      refine XS.istore X37.here hx rfl (hb hby at_20) rfl (l' := #[.val (.int i1), .val (.int i2), .val (.int i3), .val (.int i4), .val (.int i5), .val (.int i6), .val (.int (1 : Int32)), .val (.int ((128 : Int32) ||| (i1 &&& (127 : Int32)))), .val (.int (own_j1_6_0 i2)), .unset, .unset, .unset, .unset, .unset, .unset]) rfl ?_
      show Steps p.tables e below (T37.setTop (mkF m 22 #[.val (.int i1), .val (.int i2), .val (.int i3), .val (.int i4), .val (.int i5), .val (.int i6), .val (.int (1 : Int32)), .val (.int ((128 : Int32) ||| (i1 &&& (127 : Int32)))), .val (.int (own_j1_6_0 i2)), .unset, .unset, .unset, .unset, .unset, .unset] [])) _
      refine XS.iloadN X37.here hx rfl (hb hby at_22) rfl ?_
      show Steps p.tables e below (T37.setTop (mkF m 23 #[.val (.int i1), .val (.int i2), .val (.int i3), .val (.int i4), .val (.int i5), .val (.int i6), .val (.int (1 : Int32)), .val (.int ((128 : Int32) ||| (i1 &&& (127 : Int32)))), .val (.int (own_j1_6_0 i2)), .unset, .unset, .unset, .unset, .unset, .unset] [(.int i3)])) _
      refine st38 _ ?_
      show Steps p.tables e below (T38.setTop (mkF m 26 #[.val (.int i1), .val (.int i2), .val (.int i3), .val (.int i4), .val (.int i5), .val (.int i6), .val (.int (1 : Int32)), .val (.int ((128 : Int32) ||| (i1 &&& (127 : Int32)))), .val (.int (own_j1_6_0 i2)), .unset, .unset, .unset, .unset, .unset, .unset] [(.int (own_j1_6_0 i3))])) _
      refine XS.istore X38.here hx rfl (hb hby at_26) rfl (l' := #[.val (.int i1), .val (.int i2), .val (.int i3), .val (.int i4), .val (.int i5), .val (.int i6), .val (.int (1 : Int32)), .val (.int ((128 : Int32) ||| (i1 &&& (127 : Int32)))), .val (.int (own_j1_6_0 i2)), .val (.int (own_j1_6_0 i3)), .unset, .unset, .unset, .unset, .unset]) rfl ?_
      show Steps p.tables e below (T38.setTop (mkF m 28 #[.val (.int i1), .val (.int i2), .val (.int i3), .val (.int i4), .val (.int i5), .val (.int i6), .val (.int (1 : Int32)), .val (.int ((128 : Int32) ||| (i1 &&& (127 : Int32)))), .val (.int (own_j1_6_0 i2)), .val (.int (own_j1_6_0 i3)), .unset, .unset, .unset, .unset, .unset] [])) _
      refine XS.iloadN X38.here hx rfl (hb hby at_28) rfl ?_
      show Steps p.tables e below (T38.setTop (mkF m 29 #[.val (.int i1), .val (.int i2), .val (.int i3), .val (.int i4), .val (.int i5), .val (.int i6), .val (.int (1 : Int32)), .val (.int ((128 : Int32) ||| (i1 &&& (127 : Int32)))), .val (.int (own_j1_6_0 i2)), .val (.int (own_j1_6_0 i3)), .unset, .unset, .unset, .unset, .unset] [(.int i4)])) _
      refine st39 _ ?_
      show Steps p.tables e below (T39.setTop (mkF m 32 #[.val (.int i1), .val (.int i2), .val (.int i3), .val (.int i4), .val (.int i5), .val (.int i6), .val (.int (1 : Int32)), .val (.int ((128 : Int32) ||| (i1 &&& (127 : Int32)))), .val (.int (own_j1_6_0 i2)), .val (.int (own_j1_6_0 i3)), .unset, .unset, .unset, .unset, .unset] [(.int (own_j1_6_0 i4))])) _
      refine XS.istore X39.here hx rfl (hb hby at_32) rfl (l' := #[.val (.int i1), .val (.int i2), .val (.int i3), .val (.int i4), .val (.int i5), .val (.int i6), .val (.int (1 : Int32)), .val (.int ((128 : Int32) ||| (i1 &&& (127 : Int32)))), .val (.int (own_j1_6_0 i2)), .val (.int (own_j1_6_0 i3)), .val (.int (own_j1_6_0 i4)), .unset, .unset, .unset, .unset]) rfl ?_
      show Steps p.tables e below (T39.setTop (mkF m 34 #[.val (.int i1), .val (.int i2), .val (.int i3), .val (.int i4), .val (.int i5), .val (.int i6), .val (.int (1 : Int32)), .val (.int ((128 : Int32) ||| (i1 &&& (127 : Int32)))), .val (.int (own_j1_6_0 i2)), .val (.int (own_j1_6_0 i3)), .val (.int (own_j1_6_0 i4)), .unset, .unset, .unset, .unset] [])) _
      refine XS.iload X39.here hx rfl (hb hby at_34) rfl ?_
      show Steps p.tables e below (T39.setTop (mkF m 36 #[.val (.int i1), .val (.int i2), .val (.int i3), .val (.int i4), .val (.int i5), .val (.int i6), .val (.int (1 : Int32)), .val (.int ((128 : Int32) ||| (i1 &&& (127 : Int32)))), .val (.int (own_j1_6_0 i2)), .val (.int (own_j1_6_0 i3)), .val (.int (own_j1_6_0 i4)), .unset, .unset, .unset, .unset] [(.int i5)])) _
      refine XS.bipush X39.here hx rfl (hb hby at_36) ?_
      show Steps p.tables e below (T39.setTop (mkF m 38 #[.val (.int i1), .val (.int i2), .val (.int i3), .val (.int i4), .val (.int i5), .val (.int i6), .val (.int (1 : Int32)), .val (.int ((128 : Int32) ||| (i1 &&& (127 : Int32)))), .val (.int (own_j1_6_0 i2)), .val (.int (own_j1_6_0 i3)), .val (.int (own_j1_6_0 i4)), .unset, .unset, .unset, .unset] [(.int (8 : Int32)), (.int i5)])) _
      refine XS.iushr X39.here hx rfl (hb hby at_38) rfl ?_
      show Steps p.tables e below (T39.setTop (mkF m 39 #[.val (.int i1), .val (.int i2), .val (.int i3), .val (.int i4), .val (.int i5), .val (.int i6), .val (.int (1 : Int32)), .val (.int ((128 : Int32) ||| (i1 &&& (127 : Int32)))), .val (.int (own_j1_6_0 i2)), .val (.int (own_j1_6_0 i3)), .val (.int (own_j1_6_0 i4)), .unset, .unset, .unset, .unset] [(.int ((i5.toUInt32 >>> ((8 : Int32) &&& 31).toUInt32).toInt32))])) _
      refine XS.i2b X39.here hx rfl (hb hby at_39) rfl ?_
      show Steps p.tables e below (T39.setTop (mkF m 40 #[.val (.int i1), .val (.int i2), .val (.int i3), .val (.int i4), .val (.int i5), .val (.int i6), .val (.int (1 : Int32)), .val (.int ((128 : Int32) ||| (i1 &&& (127 : Int32)))), .val (.int (own_j1_6_0 i2)), .val (.int (own_j1_6_0 i3)), .val (.int (own_j1_6_0 i4)), .unset, .unset, .unset, .unset] [(.int (((i5.toUInt32 >>> ((8 : Int32) &&& 31).toUInt32).toInt32).toInt8.toInt32))])) _
      refine XS.istore X39.here hx rfl (hb hby at_40) rfl (l' := #[.val (.int i1), .val (.int i2), .val (.int i3), .val (.int i4), .val (.int i5), .val (.int i6), .val (.int (1 : Int32)), .val (.int ((128 : Int32) ||| (i1 &&& (127 : Int32)))), .val (.int (own_j1_6_0 i2)), .val (.int (own_j1_6_0 i3)), .val (.int (own_j1_6_0 i4)), .val (.int (((i5.toUInt32 >>> ((8 : Int32) &&& 31).toUInt32).toInt32).toInt8.toInt32)), .unset, .unset, .unset]) rfl ?_
      show Steps p.tables e below (T39.setTop (mkF m 42 #[.val (.int i1), .val (.int i2), .val (.int i3), .val (.int i4), .val (.int i5), .val (.int i6), .val (.int (1 : Int32)), .val (.int ((128 : Int32) ||| (i1 &&& (127 : Int32)))), .val (.int (own_j1_6_0 i2)), .val (.int (own_j1_6_0 i3)), .val (.int (own_j1_6_0 i4)), .val (.int (((i5.toUInt32 >>> ((8 : Int32) &&& 31).toUInt32).toInt32).toInt8.toInt32)), .unset, .unset, .unset] [])) _
      refine XS.bipush X39.here hx rfl (hb hby at_42) ?_
      show Steps p.tables e below (T39.setTop (mkF m 44 #[.val (.int i1), .val (.int i2), .val (.int i3), .val (.int i4), .val (.int i5), .val (.int i6), .val (.int (1 : Int32)), .val (.int ((128 : Int32) ||| (i1 &&& (127 : Int32)))), .val (.int (own_j1_6_0 i2)), .val (.int (own_j1_6_0 i3)), .val (.int (own_j1_6_0 i4)), .val (.int (((i5.toUInt32 >>> ((8 : Int32) &&& 31).toUInt32).toInt32).toInt8.toInt32)), .unset, .unset, .unset] [(.int (6 : Int32))])) _
      refine st40 _ ?_
      show Steps p.tables e below (T40.setTop (mkF m 46 #[.val (.int i1), .val (.int i2), .val (.int i3), .val (.int i4), .val (.int i5), .val (.int i6), .val (.int (1 : Int32)), .val (.int ((128 : Int32) ||| (i1 &&& (127 : Int32)))), .val (.int (own_j1_6_0 i2)), .val (.int (own_j1_6_0 i3)), .val (.int (own_j1_6_0 i4)), .val (.int (((i5.toUInt32 >>> ((8 : Int32) &&& 31).toUInt32).toInt32).toInt8.toInt32)), .unset, .unset, .unset] [(.ref b40)])) _
      refine XS.dup X40.here hx rfl (hb hby at_46) rfl rfl ?_
      show Steps p.tables e below (T40.setTop (mkF m 47 #[.val (.int i1), .val (.int i2), .val (.int i3), .val (.int i4), .val (.int i5), .val (.int i6), .val (.int (1 : Int32)), .val (.int ((128 : Int32) ||| (i1 &&& (127 : Int32)))), .val (.int (own_j1_6_0 i2)), .val (.int (own_j1_6_0 i3)), .val (.int (own_j1_6_0 i4)), .val (.int (((i5.toUInt32 >>> ((8 : Int32) &&& 31).toUInt32).toInt32).toInt8.toInt32)), .unset, .unset, .unset] [(.ref b40), (.ref b40)])) _
      refine XS.iconst X40.here hx rfl (hb hby at_47) ?_
      show Steps p.tables e below (T40.setTop (mkF m 48 #[.val (.int i1), .val (.int i2), .val (.int i3), .val (.int i4), .val (.int i5), .val (.int i6), .val (.int (1 : Int32)), .val (.int ((128 : Int32) ||| (i1 &&& (127 : Int32)))), .val (.int (own_j1_6_0 i2)), .val (.int (own_j1_6_0 i3)), .val (.int (own_j1_6_0 i4)), .val (.int (((i5.toUInt32 >>> ((8 : Int32) &&& 31).toUInt32).toInt32).toInt8.toInt32)), .unset, .unset, .unset] [(.int (0 : Int32)), (.ref b40), (.ref b40)])) _
      refine XS.iload X40.here hx rfl (hb hby at_48) rfl ?_
      show Steps p.tables e below (T40.setTop (mkF m 50 #[.val (.int i1), .val (.int i2), .val (.int i3), .val (.int i4), .val (.int i5), .val (.int i6), .val (.int (1 : Int32)), .val (.int ((128 : Int32) ||| (i1 &&& (127 : Int32)))), .val (.int (own_j1_6_0 i2)), .val (.int (own_j1_6_0 i3)), .val (.int (own_j1_6_0 i4)), .val (.int (((i5.toUInt32 >>> ((8 : Int32) &&& 31).toUInt32).toInt32).toInt8.toInt32)), .unset, .unset, .unset] [(.int (((i5.toUInt32 >>> ((8 : Int32) &&& 31).toUInt32).toInt32).toInt8.toInt32)), (.int (0 : Int32)), (.ref b40), (.ref b40)])) _
      refine st42 _ ?_
      show Steps p.tables e below (T42.setTop (mkF m 51 #[.val (.int i1), .val (.int i2), .val (.int i3), .val (.int i4), .val (.int i5), .val (.int i6), .val (.int (1 : Int32)), .val (.int ((128 : Int32) ||| (i1 &&& (127 : Int32)))), .val (.int (own_j1_6_0 i2)), .val (.int (own_j1_6_0 i3)), .val (.int (own_j1_6_0 i4)), .val (.int (((i5.toUInt32 >>> ((8 : Int32) &&& 31).toUInt32).toInt32).toInt8.toInt32)), .unset, .unset, .unset] [(.ref b40)])) _
      refine XS.dup X42.here hx rfl (hb hby at_51) rfl rfl ?_
      show Steps p.tables e below (T42.setTop (mkF m 52 #[.val (.int i1), .val (.int i2), .val (.int i3), .val (.int i4), .val (.int i5), .val (.int i6), .val (.int (1 : Int32)), .val (.int ((128 : Int32) ||| (i1 &&& (127 : Int32)))), .val (.int (own_j1_6_0 i2)), .val (.int (own_j1_6_0 i3)), .val (.int (own_j1_6_0 i4)), .val (.int (((i5.toUInt32 >>> ((8 : Int32) &&& 31).toUInt32).toInt32).toInt8.toInt32)), .unset, .unset, .unset] [(.ref b40), (.ref b40)])) _
      refine XS.iconst X42.here hx rfl (hb hby at_52) ?_
      show Steps p.tables e below (T42.setTop (mkF m 53 #[.val (.int i1), .val (.int i2), .val (.int i3), .val (.int i4), .val (.int i5), .val (.int i6), .val (.int (1 : Int32)), .val (.int ((128 : Int32) ||| (i1 &&& (127 : Int32)))), .val (.int (own_j1_6_0 i2)), .val (.int (own_j1_6_0 i3)), .val (.int (own_j1_6_0 i4)), .val (.int (((i5.toUInt32 >>> ((8 : Int32) &&& 31).toUInt32).toInt32).toInt8.toInt32)), .unset, .unset, .unset] [(.int (1 : Int32)), (.ref b40), (.ref b40)])) _
      refine XS.iload X42.here hx rfl (hb hby at_53) rfl ?_
      show Steps p.tables e below (T42.setTop (mkF m 55 #[.val (.int i1), .val (.int i2), .val (.int i3), .val (.int i4), .val (.int i5), .val (.int i6), .val (.int (1 : Int32)), .val (.int ((128 : Int32) ||| (i1 &&& (127 : Int32)))), .val (.int (own_j1_6_0 i2)), .val (.int (own_j1_6_0 i3)), .val (.int (own_j1_6_0 i4)), .val (.int (((i5.toUInt32 >>> ((8 : Int32) &&& 31).toUInt32).toInt32).toInt8.toInt32)), .unset, .unset, .unset] [(.int (((i5.toUInt32 >>> ((8 : Int32) &&& 31).toUInt32).toInt32).toInt8.toInt32)), (.int (1 : Int32)), (.ref b40), (.ref b40)])) _
      refine st44 _ ?_
      show Steps p.tables e below (T44.setTop (mkF m 56 #[.val (.int i1), .val (.int i2), .val (.int i3), .val (.int i4), .val (.int i5), .val (.int i6), .val (.int (1 : Int32)), .val (.int ((128 : Int32) ||| (i1 &&& (127 : Int32)))), .val (.int (own_j1_6_0 i2)), .val (.int (own_j1_6_0 i3)), .val (.int (own_j1_6_0 i4)), .val (.int (((i5.toUInt32 >>> ((8 : Int32) &&& 31).toUInt32).toInt32).toInt8.toInt32)), .unset, .unset, .unset] [(.ref b40)])) _
      refine XS.dup X44.here hx rfl (hb hby at_56) rfl rfl ?_
      show Steps p.tables e below (T44.setTop (mkF m 57 #[.val (.int i1), .val (.int i2), .val (.int i3), .val (.int i4), .val (.int i5), .val (.int i6), .val (.int (1 : Int32)), .val (.int ((128 : Int32) ||| (i1 &&& (127 : Int32)))), .val (.int (own_j1_6_0 i2)), .val (.int (own_j1_6_0 i3)), .val (.int (own_j1_6_0 i4)), .val (.int (((i5.toUInt32 >>> ((8 : Int32) &&& 31).toUInt32).toInt32).toInt8.toInt32)), .unset, .unset, .unset] [(.ref b40), (.ref b40)])) _
      refine XS.iconst X44.here hx rfl (hb hby at_57) ?_
      show Steps p.tables e below (T44.setTop (mkF m 58 #[.val (.int i1), .val (.int i2), .val (.int i3), .val (.int i4), .val (.int i5), .val (.int i6), .val (.int (1 : Int32)), .val (.int ((128 : Int32) ||| (i1 &&& (127 : Int32)))), .val (.int (own_j1_6_0 i2)), .val (.int (own_j1_6_0 i3)), .val (.int (own_j1_6_0 i4)), .val (.int (((i5.toUInt32 >>> ((8 : Int32) &&& 31).toUInt32).toInt32).toInt8.toInt32)), .unset, .unset, .unset] [(.int (2 : Int32)), (.ref b40), (.ref b40)])) _
      refine XS.iload X44.here hx rfl (hb hby at_58) rfl ?_
      show Steps p.tables e below (T44.setTop (mkF m 60 #[.val (.int i1), .val (.int i2), .val (.int i3), .val (.int i4), .val (.int i5), .val (.int i6), .val (.int (1 : Int32)), .val (.int ((128 : Int32) ||| (i1 &&& (127 : Int32)))), .val (.int (own_j1_6_0 i2)), .val (.int (own_j1_6_0 i3)), .val (.int (own_j1_6_0 i4)), .val (.int (((i5.toUInt32 >>> ((8 : Int32) &&& 31).toUInt32).toInt32).toInt8.toInt32)), .unset, .unset, .unset] [(.int (((i5.toUInt32 >>> ((8 : Int32) &&& 31).toUInt32).toInt32).toInt8.toInt32)), (.int (2 : Int32)), (.ref b40), (.ref b40)])) _
      refine st46 _ ?_
      show Steps p.tables e below (T46.setTop (mkF m 61 #[.val (.int i1), .val (.int i2), .val (.int i3), .val (.int i4), .val (.int i5), .val (.int i6), .val (.int (1 : Int32)), .val (.int ((128 : Int32) ||| (i1 &&& (127 : Int32)))), .val (.int (own_j1_6_0 i2)), .val (.int (own_j1_6_0 i3)), .val (.int (own_j1_6_0 i4)), .val (.int (((i5.toUInt32 >>> ((8 : Int32) &&& 31).toUInt32).toInt32).toInt8.toInt32)), .unset, .unset, .unset] [(.ref b40)])) _
      refine XS.dup X46.here hx rfl (hb hby at_61) rfl rfl ?_
      show Steps p.tables e below (T46.setTop (mkF m 62 #[.val (.int i1), .val (.int i2), .val (.int i3), .val (.int i4), .val (.int i5), .val (.int i6), .val (.int (1 : Int32)), .val (.int ((128 : Int32) ||| (i1 &&& (127 : Int32)))), .val (.int (own_j1_6_0 i2)), .val (.int (own_j1_6_0 i3)), .val (.int (own_j1_6_0 i4)), .val (.int (((i5.toUInt32 >>> ((8 : Int32) &&& 31).toUInt32).toInt32).toInt8.toInt32)), .unset, .unset, .unset] [(.ref b40), (.ref b40)])) _
      refine XS.iconst X46.here hx rfl (hb hby at_62) ?_
      show Steps p.tables e below (T46.setTop (mkF m 63 #[.val (.int i1), .val (.int i2), .val (.int i3), .val (.int i4), .val (.int i5), .val (.int i6), .val (.int (1 : Int32)), .val (.int ((128 : Int32) ||| (i1 &&& (127 : Int32)))), .val (.int (own_j1_6_0 i2)), .val (.int (own_j1_6_0 i3)), .val (.int (own_j1_6_0 i4)), .val (.int (((i5.toUInt32 >>> ((8 : Int32) &&& 31).toUInt32).toInt32).toInt8.toInt32)), .unset, .unset, .unset] [(.int (3 : Int32)), (.ref b40), (.ref b40)])) _
      refine XS.iload X46.here hx rfl (hb hby at_63) rfl ?_
      show Steps p.tables e below (T46.setTop (mkF m 65 #[.val (.int i1), .val (.int i2), .val (.int i3), .val (.int i4), .val (.int i5), .val (.int i6), .val (.int (1 : Int32)), .val (.int ((128 : Int32) ||| (i1 &&& (127 : Int32)))), .val (.int (own_j1_6_0 i2)), .val (.int (own_j1_6_0 i3)), .val (.int (own_j1_6_0 i4)), .val (.int (((i5.toUInt32 >>> ((8 : Int32) &&& 31).toUInt32).toInt32).toInt8.toInt32)), .unset, .unset, .unset] [(.int (((i5.toUInt32 >>> ((8 : Int32) &&& 31).toUInt32).toInt32).toInt8.toInt32)), (.int (3 : Int32)), (.ref b40), (.ref b40)])) _
      refine st48 _ ?_
      show Steps p.tables e below (T48.setTop (mkF m 66 #[.val (.int i1), .val (.int i2), .val (.int i3), .val (.int i4), .val (.int i5), .val (.int i6), .val (.int (1 : Int32)), .val (.int ((128 : Int32) ||| (i1 &&& (127 : Int32)))), .val (.int (own_j1_6_0 i2)), .val (.int (own_j1_6_0 i3)), .val (.int (own_j1_6_0 i4)), .val (.int (((i5.toUInt32 >>> ((8 : Int32) &&& 31).toUInt32).toInt32).toInt8.toInt32)), .unset, .unset, .unset] [(.ref b40)])) _
      refine XS.dup X48.here hx rfl (hb hby at_66) rfl rfl ?_
      show Steps p.tables e below (T48.setTop (mkF m 67 #[.val (.int i1), .val (.int i2), .val (.int i3), .val (.int i4), .val (.int i5), .val (.int i6), .val (.int (1 : Int32)), .val (.int ((128 : Int32) ||| (i1 &&& (127 : Int32)))), .val (.int (own_j1_6_0 i2)), .val (.int (own_j1_6_0 i3)), .val (.int (own_j1_6_0 i4)), .val (.int (((i5.toUInt32 >>> ((8 : Int32) &&& 31).toUInt32).toInt32).toInt8.toInt32)), .unset, .unset, .unset] [(.ref b40), (.ref b40)])) _
      refine XS.iconst X48.here hx rfl (hb hby at_67) ?_
      show Steps p.tables e below (T48.setTop (mkF m 68 #[.val (.int i1), .val (.int i2), .val (.int i3), .val (.int i4), .val (.int i5), .val (.int i6), .val (.int (1 : Int32)), .val (.int ((128 : Int32) ||| (i1 &&& (127 : Int32)))), .val (.int (own_j1_6_0 i2)), .val (.int (own_j1_6_0 i3)), .val (.int (own_j1_6_0 i4)), .val (.int (((i5.toUInt32 >>> ((8 : Int32) &&& 31).toUInt32).toInt32).toInt8.toInt32)), .unset, .unset, .unset] [(.int (4 : Int32)), (.ref b40), (.ref b40)])) _
      refine XS.iload X48.here hx rfl (hb hby at_68) rfl ?_
      show Steps p.tables e below (T48.setTop (mkF m 70 #[.val (.int i1), .val (.int i2), .val (.int i3), .val (.int i4), .val (.int i5), .val (.int i6), .val (.int (1 : Int32)), .val (.int ((128 : Int32) ||| (i1 &&& (127 : Int32)))), .val (.int (own_j1_6_0 i2)), .val (.int (own_j1_6_0 i3)), .val (.int (own_j1_6_0 i4)), .val (.int (((i5.toUInt32 >>> ((8 : Int32) &&& 31).toUInt32).toInt32).toInt8.toInt32)), .unset, .unset, .unset] [(.int (((i5.toUInt32 >>> ((8 : Int32) &&& 31).toUInt32).toInt32).toInt8.toInt32)), (.int (4 : Int32)), (.ref b40), (.ref b40)])) _
      refine st50 _ ?_
      show Steps p.tables e below (T50.setTop (mkF m 71 #[.val (.int i1), .val (.int i2), .val (.int i3), .val (.int i4), .val (.int i5), .val (.int i6), .val (.int (1 : Int32)), .val (.int ((128 : Int32) ||| (i1 &&& (127 : Int32)))), .val (.int (own_j1_6_0 i2)), .val (.int (own_j1_6_0 i3)), .val (.int (own_j1_6_0 i4)), .val (.int (((i5.toUInt32 >>> ((8 : Int32) &&& 31).toUInt32).toInt32).toInt8.toInt32)), .unset, .unset, .unset] [(.ref b40)])) _
      refine XS.dup X50.here hx rfl (hb hby at_71) rfl rfl ?_
      show Steps p.tables e below (T50.setTop (mkF m 72 #[.val (.int i1), .val (.int i2), .val (.int i3), .val (.int i4), .val (.int i5), .val (.int i6), .val (.int (1 : Int32)), .val (.int ((128 : Int32) ||| (i1 &&& (127 : Int32)))), .val (.int (own_j1_6_0 i2)), .val (.int (own_j1_6_0 i3)), .val (.int (own_j1_6_0 i4)), .val (.int (((i5.toUInt32 >>> ((8 : Int32) &&& 31).toUInt32).toInt32).toInt8.toInt32)), .unset, .unset, .unset] [(.ref b40), (.ref b40)])) _
      refine XS.iconst X50.here hx rfl (hb hby at_72) ?_
      show Steps p.tables e below (T50.setTop (mkF m 73 #[.val (.int i1), .val (.int i2), .val (.int i3), .val (.int i4), .val (.int i5), .val (.int i6), .val (.int (1 : Int32)), .val (.int ((128 : Int32) ||| (i1 &&& (127 : Int32)))), .val (.int (own_j1_6_0 i2)), .val (.int (own_j1_6_0 i3)), .val (.int (own_j1_6_0 i4)), .val (.int (((i5.toUInt32 >>> ((8 : Int32) &&& 31).toUInt32).toInt32).toInt8.toInt32)), .unset, .unset, .unset] [(.int (5 : Int32)), (.ref b40), (.ref b40)])) _
      refine XS.iload X50.here hx rfl (hb hby at_73) rfl ?_
      show Steps p.tables e below (T50.setTop (mkF m 75 #[.val (.int i1), .val (.int i2), .val (.int i3), .val (.int i4), .val (.int i5), .val (.int i6), .val (.int (1 : Int32)), .val (.int ((128 : Int32) ||| (i1 &&& (127 : Int32)))), .val (.int (own_j1_6_0 i2)), .val (.int (own_j1_6_0 i3)), .val (.int (own_j1_6_0 i4)), .val (.int (((i5.toUInt32 >>> ((8 : Int32) &&& 31).toUInt32).toInt32).toInt8.toInt32)), .unset, .unset, .unset] [(.int (((i5.toUInt32 >>> ((8 : Int32) &&& 31).toUInt32).toInt32).toInt8.toInt32)), (.int (5 : Int32)), (.ref b40), (.ref b40)])) _
      refine st52 _ ?_
      show Steps p.tables e below (T52.setTop (mkF m 76 #[.val (.int i1), .val (.int i2), .val (.int i3), .val (.int i4), .val (.int i5), .val (.int i6), .val (.int (1 : Int32)), .val (.int ((128 : Int32) ||| (i1 &&& (127 : Int32)))), .val (.int (own_j1_6_0 i2)), .val (.int (own_j1_6_0 i3)), .val (.int (own_j1_6_0 i4)), .val (.int (((i5.toUInt32 >>> ((8 : Int32) &&& 31).toUInt32).toInt32).toInt8.toInt32)), .unset, .unset, .unset] [(.ref b40)])) _
      refine XS.astore X52.here hx rfl (hb hby at_76) rfl rfl (l' := #[.val (.int i1), .val (.int i2), .val (.int i3), .val (.int i4), .val (.int i5), .val (.int i6), .val (.int (1 : Int32)), .val (.int ((128 : Int32) ||| (i1 &&& (127 : Int32)))), .val (.int (own_j1_6_0 i2)), .val (.int (own_j1_6_0 i3)), .val (.int (own_j1_6_0 i4)), .val (.int (((i5.toUInt32 >>> ((8 : Int32) &&& 31).toUInt32).toInt32).toInt8.toInt32)), .val (.ref b40), .unset, .unset]) rfl ?_
      show Steps p.tables e below (T52.setTop (mkF m 78 #[.val (.int i1), .val (.int i2), .val (.int i3), .val (.int i4), .val (.int i5), .val (.int i6), .val (.int (1 : Int32)), .val (.int ((128 : Int32) ||| (i1 &&& (127 : Int32)))), .val (.int (own_j1_6_0 i2)), .val (.int (own_j1_6_0 i3)), .val (.int (own_j1_6_0 i4)), .val (.int (((i5.toUInt32 >>> ((8 : Int32) &&& 31).toUInt32).toInt32).toInt8.toInt32)), .val (.ref b40), .unset, .unset] [])) _
      refine XS.aload X52.here hx rfl (hb hby at_78) rfl rfl ?_
      show Steps p.tables e below (T52.setTop (mkF m 80 #[.val (.int i1), .val (.int i2), .val (.int i3), .val (.int i4), .val (.int i5), .val (.int i6), .val (.int (1 : Int32)), .val (.int ((128 : Int32) ||| (i1 &&& (127 : Int32)))), .val (.int (own_j1_6_0 i2)), .val (.int (own_j1_6_0 i3)), .val (.int (own_j1_6_0 i4)), .val (.int (((i5.toUInt32 >>> ((8 : Int32) &&& 31).toUInt32).toInt32).toInt8.toInt32)), .val (.ref b40), .unset, .unset] [(.ref b40)])) _
      refine XS.iload X52.here hx rfl (hb hby at_80) rfl ?_
      show Steps p.tables e below (T52.setTop (mkF m 82 #[.val (.int i1), .val (.int i2), .val (.int i3), .val (.int i4), .val (.int i5), .val (.int i6), .val (.int (1 : Int32)), .val (.int ((128 : Int32) ||| (i1 &&& (127 : Int32)))), .val (.int (own_j1_6_0 i2)), .val (.int (own_j1_6_0 i3)), .val (.int (own_j1_6_0 i4)), .val (.int (((i5.toUInt32 >>> ((8 : Int32) &&& 31).toUInt32).toInt32).toInt8.toInt32)), .val (.ref b40), .unset, .unset] [(.int (1 : Int32)), (.ref b40)])) _
      refine XS.iload X52.here hx rfl (hb hby at_82) rfl ?_
      show Steps p.tables e below (T52.setTop (mkF m 84 #[.val (.int i1), .val (.int i2), .val (.int i3), .val (.int i4), .val (.int i5), .val (.int i6), .val (.int (1 : Int32)), .val (.int ((128 : Int32) ||| (i1 &&& (127 : Int32)))), .val (.int (own_j1_6_0 i2)), .val (.int (own_j1_6_0 i3)), .val (.int (own_j1_6_0 i4)), .val (.int (((i5.toUInt32 >>> ((8 : Int32) &&& 31).toUInt32).toInt32).toInt8.toInt32)), .val (.ref b40), .unset, .unset] [(.int ((128 : Int32) ||| (i1 &&& (127 : Int32)))), (.int (1 : Int32)), (.ref b40)])) _
      refine XS.i2b X52.here hx rfl (hb hby at_84) rfl ?_
      show Steps p.tables e below (T52.setTop (mkF m 85 #[.val (.int i1), .val (.int i2), .val (.int i3), .val (.int i4), .val (.int i5), .val (.int i6), .val (.int (1 : Int32)), .val (.int ((128 : Int32) ||| (i1 &&& (127 : Int32)))), .val (.int (own_j1_6_0 i2)), .val (.int (own_j1_6_0 i3)), .val (.int (own_j1_6_0 i4)), .val (.int (((i5.toUInt32 >>> ((8 : Int32) &&& 31).toUInt32).toInt32).toInt8.toInt32)), .val (.ref b40), .unset, .unset] [(.int (((128 : Int32) ||| (i1 &&& (127 : Int32))).toInt8.toInt32)), (.int (1 : Int32)), (.ref b40)])) _
      refine st54 _ ?_
      show Steps p.tables e below (T54.setTop (mkF m 86 #[.val (.int i1), .val (.int i2), .val (.int i3), .val (.int i4), .val (.int i5), .val (.int i6), .val (.int (1 : Int32)), .val (.int ((128 : Int32) ||| (i1 &&& (127 : Int32)))), .val (.int (own_j1_6_0 i2)), .val (.int (own_j1_6_0 i3)), .val (.int (own_j1_6_0 i4)), .val (.int (((i5.toUInt32 >>> ((8 : Int32) &&& 31).toUInt32).toInt32).toInt8.toInt32)), .val (.ref b40), .unset, .unset] [])) _
      refine XS.aload X54.here hx rfl (hb hby at_86) rfl rfl ?_
      show Steps p.tables e below (T54.setTop (mkF m 88 #[.val (.int i1), .val (.int i2), .val (.int i3), .val (.int i4), .val (.int i5), .val (.int i6), .val (.int (1 : Int32)), .val (.int ((128 : Int32) ||| (i1 &&& (127 : Int32)))), .val (.int (own_j1_6_0 i2)), .val (.int (own_j1_6_0 i3)), .val (.int (own_j1_6_0 i4)), .val (.int (((i5.toUInt32 >>> ((8 : Int32) &&& 31).toUInt32).toInt32).toInt8.toInt32)), .val (.ref b40), .unset, .unset] [(.ref b40)])) _
      refine XS.iload X54.here hx rfl (hb hby at_88) rfl ?_
      show Steps p.tables e below (T54.setTop (mkF m 90 #[.val (.int i1), .val (.int i2), .val (.int i3), .val (.int i4), .val (.int i5), .val (.int i6), .val (.int (1 : Int32)), .val (.int ((128 : Int32) ||| (i1 &&& (127 : Int32)))), .val (.int (own_j1_6_0 i2)), .val (.int (own_j1_6_0 i3)), .val (.int (own_j1_6_0 i4)), .val (.int (((i5.toUInt32 >>> ((8 : Int32) &&& 31).toUInt32).toInt32).toInt8.toInt32)), .val (.ref b40), .unset, .unset] [(.int (1 : Int32)), (.ref b40)])) _
      refine XS.iconst X54.here hx rfl (hb hby at_90) ?_
      show Steps p.tables e below (T54.setTop (mkF m 91 #[.val (.int i1), .val (.int i2), .val (.int i3), .val (.int i4), .val (.int i5), .val (.int i6), .val (.int (1 : Int32)), .val (.int ((128 : Int32) ||| (i1 &&& (127 : Int32)))), .val (.int (own_j1_6_0 i2)), .val (.int (own_j1_6_0 i3)), .val (.int (own_j1_6_0 i4)), .val (.int (((i5.toUInt32 >>> ((8 : Int32) &&& 31).toUInt32).toInt32).toInt8.toInt32)), .val (.ref b40), .unset, .unset] [(.int (1 : Int32)), (.int (1 : Int32)), (.ref b40)])) _
      refine XS.iadd X54.here hx rfl (hb hby at_91) rfl ?_
      show Steps p.tables e below (T54.setTop (mkF m 92 #[.val (.int i1), .val (.int i2), .val (.int i3), .val (.int i4), .val (.int i5), .val (.int i6), .val (.int (1 : Int32)), .val (.int ((128 : Int32) ||| (i1 &&& (127 : Int32)))), .val (.int (own_j1_6_0 i2)), .val (.int (own_j1_6_0 i3)), .val (.int (own_j1_6_0 i4)), .val (.int (((i5.toUInt32 >>> ((8 : Int32) &&& 31).toUInt32).toInt32).toInt8.toInt32)), .val (.ref b40), .unset, .unset] [(.int (2 : Int32)), (.ref b40)])) _
      refine XS.iload X54.here hx rfl (hb hby at_92) rfl ?_
      show Steps p.tables e below (T54.setTop (mkF m 94 #[.val (.int i1), .val (.int i2), .val (.int i3), .val (.int i4), .val (.int i5), .val (.int i6), .val (.int (1 : Int32)), .val (.int ((128 : Int32) ||| (i1 &&& (127 : Int32)))), .val (.int (own_j1_6_0 i2)), .val (.int (own_j1_6_0 i3)), .val (.int (own_j1_6_0 i4)), .val (.int (((i5.toUInt32 >>> ((8 : Int32) &&& 31).toUInt32).toInt32).toInt8.toInt32)), .val (.ref b40), .unset, .unset] [(.int (own_j1_6_0 i2)), (.int (2 : Int32)), (.ref b40)])) _
      refine XS.i2b X54.here hx rfl (hb hby at_94) rfl ?_
      show Steps p.tables e below (T54.setTop (mkF m 95 #[.val (.int i1), .val (.int i2), .val (.int i3), .val (.int i4), .val (.int i5), .val (.int i6), .val (.int (1 : Int32)), .val (.int ((128 : Int32) ||| (i1 &&& (127 : Int32)))), .val (.int (own_j1_6_0 i2)), .val (.int (own_j1_6_0 i3)), .val (.int (own_j1_6_0 i4)), .val (.int (((i5.toUInt32 >>> ((8 : Int32) &&& 31).toUInt32).toInt32).toInt8.toInt32)), .val (.ref b40), .unset, .unset] [(.int ((own_j1_6_0 i2).toInt8.toInt32)), (.int (2 : Int32)), (.ref b40)])) _
      refine st56 _ ?_
      show Steps p.tables e below (T56.setTop (mkF m 96 #[.val (.int i1), .val (.int i2), .val (.int i3), .val (.int i4), .val (.int i5), .val (.int i6), .val (.int (1 : Int32)), .val (.int ((128 : Int32) ||| (i1 &&& (127 : Int32)))), .val (.int (own_j1_6_0 i2)), .val (.int (own_j1_6_0 i3)), .val (.int (own_j1_6_0 i4)), .val (.int (((i5.toUInt32 >>> ((8 : Int32) &&& 31).toUInt32).toInt32).toInt8.toInt32)), .val (.ref b40), .unset, .unset] [])) _
      refine XS.aload X56.here hx rfl (hb hby at_96) rfl rfl ?_
      show Steps p.tables e below (T56.setTop (mkF m 98 #[.val (.int i1), .val (.int i2), .val (.int i3), .val (.int i4), .val (.int i5), .val (.int i6), .val (.int (1 : Int32)), .val (.int ((128 : Int32) ||| (i1 &&& (127 : Int32)))), .val (.int (own_j1_6_0 i2)), .val (.int (own_j1_6_0 i3)), .val (.int (own_j1_6_0 i4)), .val (.int (((i5.toUInt32 >>> ((8 : Int32) &&& 31).toUInt32).toInt32).toInt8.toInt32)), .val (.ref b40), .unset, .unset] [(.ref b40)])) _
      refine XS.iload X56.here hx rfl (hb hby at_98) rfl ?_
      show Steps p.tables e below (T56.setTop (mkF m 100 #[.val (.int i1), .val (.int i2), .val (.int i3), .val (.int i4), .val (.int i5), .val (.int i6), .val (.int (1 : Int32)), .val (.int ((128 : Int32) ||| (i1 &&& (127 : Int32)))), .val (.int (own_j1_6_0 i2)), .val (.int (own_j1_6_0 i3)), .val (.int (own_j1_6_0 i4)), .val (.int (((i5.toUInt32 >>> ((8 : Int32) &&& 31).toUInt32).toInt32).toInt8.toInt32)), .val (.ref b40), .unset, .unset] [(.int (1 : Int32)), (.ref b40)])) _
      refine XS.iconst X56.here hx rfl (hb hby at_100) ?_
      show Steps p.tables e below (T56.setTop (mkF m 101 #[.val (.int i1), .val (.int i2), .val (.int i3), .val (.int i4), .val (.int i5), .val (.int i6), .val (.int (1 : Int32)), .val (.int ((128 : Int32) ||| (i1 &&& (127 : Int32)))), .val (.int (own_j1_6_0 i2)), .val (.int (own_j1_6_0 i3)), .val (.int (own_j1_6_0 i4)), .val (.int (((i5.toUInt32 >>> ((8 : Int32) &&& 31).toUInt32).toInt32).toInt8.toInt32)), .val (.ref b40), .unset, .unset] [(.int (2 : Int32)), (.int (1 : Int32)), (.ref b40)])) _
      refine XS.iadd X56.here hx rfl (hb hby at_101) rfl ?_
      show Steps p.tables e below (T56.setTop (mkF m 102 #[.val (.int i1), .val (.int i2), .val (.int i3), .val (.int i4), .val (.int i5), .val (.int i6), .val (.int (1 : Int32)), .val (.int ((128 : Int32) ||| (i1 &&& (127 : Int32)))), .val (.int (own_j1_6_0 i2)), .val (.int (own_j1_6_0 i3)), .val (.int (own_j1_6_0 i4)), .val (.int (((i5.toUInt32 >>> ((8 : Int32) &&& 31).toUInt32).toInt32).toInt8.toInt32)), .val (.ref b40), .unset, .unset] [(.int (3 : Int32)), (.ref b40)])) _
      refine XS.iload X56.here hx rfl (hb hby at_102) rfl ?_
      show Steps p.tables e below (T56.setTop (mkF m 104 #[.val (.int i1), .val (.int i2), .val (.int i3), .val (.int i4), .val (.int i5), .val (.int i6), .val (.int (1 : Int32)), .val (.int ((128 : Int32) ||| (i1 &&& (127 : Int32)))), .val (.int (own_j1_6_0 i2)), .val (.int (own_j1_6_0 i3)), .val (.int (own_j1_6_0 i4)), .val (.int (((i5.toUInt32 >>> ((8 : Int32) &&& 31).toUInt32).toInt32).toInt8.toInt32)), .val (.ref b40), .unset, .unset] [(.int (own_j1_6_0 i3)), (.int (3 : Int32)), (.ref b40)])) _
      refine XS.i2b X56.here hx rfl (hb hby at_104) rfl ?_
      show Steps p.tables e below (T56.setTop (mkF m 105 #[.val (.int i1), .val (.int i2), .val (.int i3), .val (.int i4), .val (.int i5), .val (.int i6), .val (.int (1 : Int32)), .val (.int ((128 : Int32) ||| (i1 &&& (127 : Int32)))), .val (.int (own_j1_6_0 i2)), .val (.int (own_j1_6_0 i3)), .val (.int (own_j1_6_0 i4)), .val (.int (((i5.toUInt32 >>> ((8 : Int32) &&& 31).toUInt32).toInt32).toInt8.toInt32)), .val (.ref b40), .unset, .unset] [(.int ((own_j1_6_0 i3).toInt8.toInt32)), (.int (3 : Int32)), (.ref b40)])) _
      refine st58 _ ?_
      show Steps p.tables e below (T58.setTop (mkF m 106 #[.val (.int i1), .val (.int i2), .val (.int i3), .val (.int i4), .val (.int i5), .val (.int i6), .val (.int (1 : Int32)), .val (.int ((128 : Int32) ||| (i1 &&& (127 : Int32)))), .val (.int (own_j1_6_0 i2)), .val (.int (own_j1_6_0 i3)), .val (.int (own_j1_6_0 i4)), .val (.int (((i5.toUInt32 >>> ((8 : Int32) &&& 31).toUInt32).toInt32).toInt8.toInt32)), .val (.ref b40), .unset, .unset] [])) _
      refine XS.aload X58.here hx rfl (hb hby at_106) rfl rfl ?_
      show Steps p.tables e below (T58.setTop (mkF m 108 #[.val (.int i1), .val (.int i2), .val (.int i3), .val (.int i4), .val (.int i5), .val (.int i6), .val (.int (1 : Int32)), .val (.int ((128 : Int32) ||| (i1 &&& (127 : Int32)))), .val (.int (own_j1_6_0 i2)), .val (.int (own_j1_6_0 i3)), .val (.int (own_j1_6_0 i4)), .val (.int (((i5.toUInt32 >>> ((8 : Int32) &&& 31).toUInt32).toInt32).toInt8.toInt32)), .val (.ref b40), .unset, .unset] [(.ref b40)])) _
      refine XS.iload X58.here hx rfl (hb hby at_108) rfl ?_
      show Steps p.tables e below (T58.setTop (mkF m 110 #[.val (.int i1), .val (.int i2), .val (.int i3), .val (.int i4), .val (.int i5), .val (.int i6), .val (.int (1 : Int32)), .val (.int ((128 : Int32) ||| (i1 &&& (127 : Int32)))), .val (.int (own_j1_6_0 i2)), .val (.int (own_j1_6_0 i3)), .val (.int (own_j1_6_0 i4)), .val (.int (((i5.toUInt32 >>> ((8 : Int32) &&& 31).toUInt32).toInt32).toInt8.toInt32)), .val (.ref b40), .unset, .unset] [(.int (1 : Int32)), (.ref b40)])) _
      refine XS.iconst X58.here hx rfl (hb hby at_110) ?_
      show Steps p.tables e below (T58.setTop (mkF m 111 #[.val (.int i1), .val (.int i2), .val (.int i3), .val (.int i4), .val (.int i5), .val (.int i6), .val (.int (1 : Int32)), .val (.int ((128 : Int32) ||| (i1 &&& (127 : Int32)))), .val (.int (own_j1_6_0 i2)), .val (.int (own_j1_6_0 i3)), .val (.int (own_j1_6_0 i4)), .val (.int (((i5.toUInt32 >>> ((8 : Int32) &&& 31).toUInt32).toInt32).toInt8.toInt32)), .val (.ref b40), .unset, .unset] [(.int (3 : Int32)), (.int (1 : Int32)), (.ref b40)])) _
      refine XS.iadd X58.here hx rfl (hb hby at_111) rfl ?_
      show Steps p.tables e below (T58.setTop (mkF m 112 #[.val (.int i1), .val (.int i2), .val (.int i3), .val (.int i4), .val (.int i5), .val (.int i6), .val (.int (1 : Int32)), .val (.int ((128 : Int32) ||| (i1 &&& (127 : Int32)))), .val (.int (own_j1_6_0 i2)), .val (.int (own_j1_6_0 i3)), .val (.int (own_j1_6_0 i4)), .val (.int (((i5.toUInt32 >>> ((8 : Int32) &&& 31).toUInt32).toInt32).toInt8.toInt32)), .val (.ref b40), .unset, .unset] [(.int (4 : Int32)), (.ref b40)])) _
      refine XS.iload X58.here hx rfl (hb hby at_112) rfl ?_
      show Steps p.tables e below (T58.setTop (mkF m 114 #[.val (.int i1), .val (.int i2), .val (.int i3), .val (.int i4), .val (.int i5), .val (.int i6), .val (.int (1 : Int32)), .val (.int ((128 : Int32) ||| (i1 &&& (127 : Int32)))), .val (.int (own_j1_6_0 i2)), .val (.int (own_j1_6_0 i3)), .val (.int (own_j1_6_0 i4)), .val (.int (((i5.toUInt32 >>> ((8 : Int32) &&& 31).toUInt32).toInt32).toInt8.toInt32)), .val (.ref b40), .unset, .unset] [(.int (own_j1_6_0 i4)), (.int (4 : Int32)), (.ref b40)])) _
      refine XS.i2b X58.here hx rfl (hb hby at_114) rfl ?_
      show Steps p.tables e below (T58.setTop (mkF m 115 #[.val (.int i1), .val (.int i2), .val (.int i3), .val (.int i4), .val (.int i5), .val (.int i6), .val (.int (1 : Int32)), .val (.int ((128 : Int32) ||| (i1 &&& (127 : Int32)))), .val (.int (own_j1_6_0 i2)), .val (.int (own_j1_6_0 i3)), .val (.int (own_j1_6_0 i4)), .val (.int (((i5.toUInt32 >>> ((8 : Int32) &&& 31).toUInt32).toInt32).toInt8.toInt32)), .val (.ref b40), .unset, .unset] [(.int ((own_j1_6_0 i4).toInt8.toInt32)), (.int (4 : Int32)), (.ref b40)])) _
      refine st60 _ ?_
      show Steps p.tables e below (T60.setTop (mkF m 116 #[.val (.int i1), .val (.int i2), .val (.int i3), .val (.int i4), .val (.int i5), .val (.int i6), .val (.int (1 : Int32)), .val (.int ((128 : Int32) ||| (i1 &&& (127 : Int32)))), .val (.int (own_j1_6_0 i2)), .val (.int (own_j1_6_0 i3)), .val (.int (own_j1_6_0 i4)), .val (.int (((i5.toUInt32 >>> ((8 : Int32) &&& 31).toUInt32).toInt32).toInt8.toInt32)), .val (.ref b40), .unset, .unset] [])) _
      refine XS.iload X60.here hx rfl (hb hby at_116) rfl ?_
      show Steps p.tables e below (T60.setTop (mkF m 118 #[.val (.int i1), .val (.int i2), .val (.int i3), .val (.int i4), .val (.int i5), .val (.int i6), .val (.int (1 : Int32)), .val (.int ((128 : Int32) ||| (i1 &&& (127 : Int32)))), .val (.int (own_j1_6_0 i2)), .val (.int (own_j1_6_0 i3)), .val (.int (own_j1_6_0 i4)), .val (.int (((i5.toUInt32 >>> ((8 : Int32) &&& 31).toUInt32).toInt32).toInt8.toInt32)), .val (.ref b40), .unset, .unset] [(.int (1 : Int32))])) _
      refine XS.iconst X60.here hx rfl (hb hby at_118) ?_
      show Steps p.tables e below (T60.setTop (mkF m 119 #[.val (.int i1), .val (.int i2), .val (.int i3), .val (.int i4), .val (.int i5), .val (.int i6), .val (.int (1 : Int32)), .val (.int ((128 : Int32) ||| (i1 &&& (127 : Int32)))), .val (.int (own_j1_6_0 i2)), .val (.int (own_j1_6_0 i3)), .val (.int (own_j1_6_0 i4)), .val (.int (((i5.toUInt32 >>> ((8 : Int32) &&& 31).toUInt32).toInt32).toInt8.toInt32)), .val (.ref b40), .unset, .unset] [(.int (1 : Int32)), (.int (1 : Int32))])) _
      refine XS.iadd X60.here hx rfl (hb hby at_119) rfl ?_
      show Steps p.tables e below (T60.setTop (mkF m 120 #[.val (.int i1), .val (.int i2), .val (.int i3), .val (.int i4), .val (.int i5), .val (.int i6), .val (.int (1 : Int32)), .val (.int ((128 : Int32) ||| (i1 &&& (127 : Int32)))), .val (.int (own_j1_6_0 i2)), .val (.int (own_j1_6_0 i3)), .val (.int (own_j1_6_0 i4)), .val (.int (((i5.toUInt32 >>> ((8 : Int32) &&& 31).toUInt32).toInt32).toInt8.toInt32)), .val (.ref b40), .unset, .unset] [(.int (2 : Int32))])) _
      refine XS.iload X60.here hx rfl (hb hby at_120) rfl ?_
      show Steps p.tables e below (T60.setTop (mkF m 122 #[.val (.int i1), .val (.int i2), .val (.int i3), .val (.int i4), .val (.int i5), .val (.int i6), .val (.int (1 : Int32)), .val (.int ((128 : Int32) ||| (i1 &&& (127 : Int32)))), .val (.int (own_j1_6_0 i2)), .val (.int (own_j1_6_0 i3)), .val (.int (own_j1_6_0 i4)), .val (.int (((i5.toUInt32 >>> ((8 : Int32) &&& 31).toUInt32).toInt32).toInt8.toInt32)), .val (.ref b40), .unset, .unset] [(.int i6), (.int (2 : Int32))])) _
      refine X60.ldcInt hx hown (mvT hZ (hw _ (List.mem_of_getElem? (i := 5) rfl))) (g := (mkF m 122 #[.val (.int i1), .val (.int i2), .val (.int i3), .val (.int i4), .val (.int i5), .val (.int i6), .val (.int (1 : Int32)), .val (.int ((128 : Int32) ||| (i1 &&& (127 : Int32)))), .val (.int (own_j1_6_0 i2)), .val (.int (own_j1_6_0 i3)), .val (.int (own_j1_6_0 i4)), .val (.int (((i5.toUInt32 >>> ((8 : Int32) &&& 31).toUInt32).toInt32).toInt8.toInt32)), .val (.ref b40), .unset, .unset] [(.int i6), (.int (2 : Int32))])) rfl (hb hby at_122) _ ?_
      show Steps p.tables e below (T60.setTop (mkF m 124 #[.val (.int i1), .val (.int i2), .val (.int i3), .val (.int i4), .val (.int i5), .val (.int i6), .val (.int (1 : Int32)), .val (.int ((128 : Int32) ||| (i1 &&& (127 : Int32)))), .val (.int (own_j1_6_0 i2)), .val (.int (own_j1_6_0 i3)), .val (.int (own_j1_6_0 i4)), .val (.int (((i5.toUInt32 >>> ((8 : Int32) &&& 31).toUInt32).toInt32).toInt8.toInt32)), .val (.ref b40), .unset, .unset] [(.int (2147483647 : Int32)), (.int i6), (.int (2 : Int32))])) _
      refine XS.iand X60.here hx rfl (hb hby at_124) rfl ?_
      show Steps p.tables e below (T60.setTop (mkF m 125 #[.val (.int i1), .val (.int i2), .val (.int i3), .val (.int i4), .val (.int i5), .val (.int i6), .val (.int (1 : Int32)), .val (.int ((128 : Int32) ||| (i1 &&& (127 : Int32)))), .val (.int (own_j1_6_0 i2)), .val (.int (own_j1_6_0 i3)), .val (.int (own_j1_6_0 i4)), .val (.int (((i5.toUInt32 >>> ((8 : Int32) &&& 31).toUInt32).toInt32).toInt8.toInt32)), .val (.ref b40), .unset, .unset] [(.int (i6 &&& (2147483647 : Int32))), (.int (2 : Int32))])) _
      refine XS.bipush X60.here hx rfl (hb hby at_125) ?_
      show Steps p.tables e below (T60.setTop (mkF m 127 #[.val (.int i1), .val (.int i2), .val (.int i3), .val (.int i4), .val (.int i5), .val (.int i6), .val (.int (1 : Int32)), .val (.int ((128 : Int32) ||| (i1 &&& (127 : Int32)))), .val (.int (own_j1_6_0 i2)), .val (.int (own_j1_6_0 i3)), .val (.int (own_j1_6_0 i4)), .val (.int (((i5.toUInt32 >>> ((8 : Int32) &&& 31).toUInt32).toInt32).toInt8.toInt32)), .val (.ref b40), .unset, .unset] [(.int (6 : Int32)), (.int (i6 &&& (2147483647 : Int32))), (.int (2 : Int32))])) _
      refine XS.iload X60.here hx rfl (hb hby at_127) rfl ?_
      show Steps p.tables e below (T60.setTop (mkF m 129 #[.val (.int i1), .val (.int i2), .val (.int i3), .val (.int i4), .val (.int i5), .val (.int i6), .val (.int (1 : Int32)), .val (.int ((128 : Int32) ||| (i1 &&& (127 : Int32)))), .val (.int (own_j1_6_0 i2)), .val (.int (own_j1_6_0 i3)), .val (.int (own_j1_6_0 i4)), .val (.int (((i5.toUInt32 >>> ((8 : Int32) &&& 31).toUInt32).toInt32).toInt8.toInt32)), .val (.ref b40), .unset, .unset] [(.int (1 : Int32)), (.int (6 : Int32)), (.int (i6 &&& (2147483647 : Int32))), (.int (2 : Int32))])) _
      refine XS.isub X60.here hx rfl (hb hby at_129) rfl ?_
      show Steps p.tables e below (T60.setTop (mkF m 130 #[.val (.int i1), .val (.int i2), .val (.int i3), .val (.int i4), .val (.int i5), .val (.int i6), .val (.int (1 : Int32)), .val (.int ((128 : Int32) ||| (i1 &&& (127 : Int32)))), .val (.int (own_j1_6_0 i2)), .val (.int (own_j1_6_0 i3)), .val (.int (own_j1_6_0 i4)), .val (.int (((i5.toUInt32 >>> ((8 : Int32) &&& 31).toUInt32).toInt32).toInt8.toInt32)), .val (.ref b40), .unset, .unset] [(.int (5 : Int32)), (.int (i6 &&& (2147483647 : Int32))), (.int (2 : Int32))])) _
      refine iremM X60 hx rfl (hb hby at_130) rfl (by decide) ?_
      show Steps p.tables e below (T60.setTop (mkF m 131 #[.val (.int i1), .val (.int i2), .val (.int i3), .val (.int i4), .val (.int i5), .val (.int i6), .val (.int (1 : Int32)), .val (.int ((128 : Int32) ||| (i1 &&& (127 : Int32)))), .val (.int (own_j1_6_0 i2)), .val (.int (own_j1_6_0 i3)), .val (.int (own_j1_6_0 i4)), .val (.int (((i5.toUInt32 >>> ((8 : Int32) &&& 31).toUInt32).toInt32).toInt8.toInt32)), .val (.ref b40), .unset, .unset] [(.int ((i6 &&& (2147483647 : Int32)) % (5 : Int32))), (.int (2 : Int32))])) _
      refine XS.iadd X60.here hx rfl (hb hby at_131) rfl ?_
      show Steps p.tables e below (T60.setTop (mkF m 132 #[.val (.int i1), .val (.int i2), .val (.int i3), .val (.int i4), .val (.int i5), .val (.int i6), .val (.int (1 : Int32)), .val (.int ((128 : Int32) ||| (i1 &&& (127 : Int32)))), .val (.int (own_j1_6_0 i2)), .val (.int (own_j1_6_0 i3)), .val (.int (own_j1_6_0 i4)), .val (.int (((i5.toUInt32 >>> ((8 : Int32) &&& 31).toUInt32).toInt32).toInt8.toInt32)), .val (.ref b40), .unset, .unset] [(.int ((2 : Int32) + ((i6 &&& (2147483647 : Int32)) % (5 : Int32))))])) _
      refine XS.istore X60.here hx rfl (hb hby at_132) rfl (l' := #[.val (.int i1), .val (.int i2), .val (.int i3), .val (.int i4), .val (.int i5), .val (.int i6), .val (.int (1 : Int32)), .val (.int ((128 : Int32) ||| (i1 &&& (127 : Int32)))), .val (.int (own_j1_6_0 i2)), .val (.int (own_j1_6_0 i3)), .val (.int (own_j1_6_0 i4)), .val (.int (((i5.toUInt32 >>> ((8 : Int32) &&& 31).toUInt32).toInt32).toInt8.toInt32)), .val (.ref b40), .val (.int ((2 : Int32) + ((i6 &&& (2147483647 : Int32)) % (5 : Int32)))), .unset]) rfl ?_
      show Steps p.tables e below (T60.setTop (mkF m 134 #[.val (.int i1), .val (.int i2), .val (.int i3), .val (.int i4), .val (.int i5), .val (.int i6), .val (.int (1 : Int32)), .val (.int ((128 : Int32) ||| (i1 &&& (127 : Int32)))), .val (.int (own_j1_6_0 i2)), .val (.int (own_j1_6_0 i3)), .val (.int (own_j1_6_0 i4)), .val (.int (((i5.toUInt32 >>> ((8 : Int32) &&& 31).toUInt32).toInt32).toInt8.toInt32)), .val (.ref b40), .val (.int ((2 : Int32) + ((i6 &&& (2147483647 : Int32)) % (5 : Int32)))), .unset] [])) _
      refine XS.iload X60.here hx rfl (hb hby at_134) rfl ?_
      show Steps p.tables e below (T60.setTop (mkF m 136 #[.val (.int i1), .val (.int i2), .val (.int i3), .val (.int i4), .val (.int i5), .val (.int i6), .val (.int (1 : Int32)), .val (.int ((128 : Int32) ||| (i1 &&& (127 : Int32)))), .val (.int (own_j1_6_0 i2)), .val (.int (own_j1_6_0 i3)), .val (.int (own_j1_6_0 i4)), .val (.int (((i5.toUInt32 >>> ((8 : Int32) &&& 31).toUInt32).toInt32).toInt8.toInt32)), .val (.ref b40), .val (.int ((2 : Int32) + ((i6 &&& (2147483647 : Int32)) % (5 : Int32)))), .unset] [(.int (1 : Int32))])) _
      refine XS.iload X60.here hx rfl (hb hby at_136) rfl ?_
      show Steps p.tables e below (T60.setTop (mkF m 138 #[.val (.int i1), .val (.int i2), .val (.int i3), .val (.int i4), .val (.int i5), .val (.int i6), .val (.int (1 : Int32)), .val (.int ((128 : Int32) ||| (i1 &&& (127 : Int32)))), .val (.int (own_j1_6_0 i2)), .val (.int (own_j1_6_0 i3)), .val (.int (own_j1_6_0 i4)), .val (.int (((i5.toUInt32 >>> ((8 : Int32) &&& 31).toUInt32).toInt32).toInt8.toInt32)), .val (.ref b40), .val (.int ((2 : Int32) + ((i6 &&& (2147483647 : Int32)) % (5 : Int32)))), .unset] [(.int ((2 : Int32) + ((i6 &&& (2147483647 : Int32)) % (5 : Int32)))), (.int (1 : Int32))])) _
      refine XS.iload X60.here hx rfl (hb hby at_138) rfl ?_
      show Steps p.tables e below (T60.setTop (mkF m 140 #[.val (.int i1), .val (.int i2), .val (.int i3), .val (.int i4), .val (.int i5), .val (.int i6), .val (.int (1 : Int32)), .val (.int ((128 : Int32) ||| (i1 &&& (127 : Int32)))), .val (.int (own_j1_6_0 i2)), .val (.int (own_j1_6_0 i3)), .val (.int (own_j1_6_0 i4)), .val (.int (((i5.toUInt32 >>> ((8 : Int32) &&& 31).toUInt32).toInt32).toInt8.toInt32)), .val (.ref b40), .val (.int ((2 : Int32) + ((i6 &&& (2147483647 : Int32)) % (5 : Int32)))), .unset] [(.int ((128 : Int32) ||| (i1 &&& (127 : Int32)))), (.int ((2 : Int32) + ((i6 &&& (2147483647 : Int32)) % (5 : Int32)))), (.int (1 : Int32))])) _
      refine XS.iload X60.here hx rfl (hb hby at_140) rfl ?_
      show Steps p.tables e below (T60.setTop (mkF m 142 #[.val (.int i1), .val (.int i2), .val (.int i3), .val (.int i4), .val (.int i5), .val (.int i6), .val (.int (1 : Int32)), .val (.int ((128 : Int32) ||| (i1 &&& (127 : Int32)))), .val (.int (own_j1_6_0 i2)), .val (.int (own_j1_6_0 i3)), .val (.int (own_j1_6_0 i4)), .val (.int (((i5.toUInt32 >>> ((8 : Int32) &&& 31).toUInt32).toInt32).toInt8.toInt32)), .val (.ref b40), .val (.int ((2 : Int32) + ((i6 &&& (2147483647 : Int32)) % (5 : Int32)))), .unset] [(.int (own_j1_6_0 i2)), (.int ((128 : Int32) ||| (i1 &&& (127 : Int32)))), (.int ((2 : Int32) + ((i6 &&& (2147483647 : Int32)) % (5 : Int32)))), (.int (1 : Int32))])) _
      refine XS.iload X60.here hx rfl (hb hby at_142) rfl ?_
      show Steps p.tables e below (T60.setTop (mkF m 144 #[.val (.int i1), .val (.int i2), .val (.int i3), .val (.int i4), .val (.int i5), .val (.int i6), .val (.int (1 : Int32)), .val (.int ((128 : Int32) ||| (i1 &&& (127 : Int32)))), .val (.int (own_j1_6_0 i2)), .val (.int (own_j1_6_0 i3)), .val (.int (own_j1_6_0 i4)), .val (.int (((i5.toUInt32 >>> ((8 : Int32) &&& 31).toUInt32).toInt32).toInt8.toInt32)), .val (.ref b40), .val (.int ((2 : Int32) + ((i6 &&& (2147483647 : Int32)) % (5 : Int32)))), .unset] [(.int (own_j1_6_0 i3)), (.int (own_j1_6_0 i2)), (.int ((128 : Int32) ||| (i1 &&& (127 : Int32)))), (.int ((2 : Int32) + ((i6 &&& (2147483647 : Int32)) % (5 : Int32)))), (.int (1 : Int32))])) _
      refine XS.iload X60.here hx rfl (hb hby at_144) rfl ?_
      show Steps p.tables e below (T60.setTop (mkF m 146 #[.val (.int i1), .val (.int i2), .val (.int i3), .val (.int i4), .val (.int i5), .val (.int i6), .val (.int (1 : Int32)), .val (.int ((128 : Int32) ||| (i1 &&& (127 : Int32)))), .val (.int (own_j1_6_0 i2)), .val (.int (own_j1_6_0 i3)), .val (.int (own_j1_6_0 i4)), .val (.int (((i5.toUInt32 >>> ((8 : Int32) &&& 31).toUInt32).toInt32).toInt8.toInt32)), .val (.ref b40), .val (.int ((2 : Int32) + ((i6 &&& (2147483647 : Int32)) % (5 : Int32)))), .unset] [(.int (own_j1_6_0 i4)), (.int (own_j1_6_0 i3)), (.int (own_j1_6_0 i2)), (.int ((128 : Int32) ||| (i1 &&& (127 : Int32)))), (.int ((2 : Int32) + ((i6 &&& (2147483647 : Int32)) % (5 : Int32)))), (.int (1 : Int32))])) _
      refine st62 _ ?_
      show Steps p.tables e below (T62.setTop (mkF m 149 #[.val (.int i1), .val (.int i2), .val (.int i3), .val (.int i4), .val (.int i5), .val (.int i6), .val (.int (1 : Int32)), .val (.int ((128 : Int32) ||| (i1 &&& (127 : Int32)))), .val (.int (own_j1_6_0 i2)), .val (.int (own_j1_6_0 i3)), .val (.int (own_j1_6_0 i4)), .val (.int (((i5.toUInt32 >>> ((8 : Int32) &&& 31).toUInt32).toInt32).toInt8.toInt32)), .val (.ref b40), .val (.int ((2 : Int32) + ((i6 &&& (2147483647 : Int32)) % (5 : Int32)))), .unset] [(.int (own_r2 (1 : Int32) ((2 : Int32) + ((i6 &&& (2147483647 : Int32)) % (5 : Int32))) ((128 : Int32) ||| (i1 &&& (127 : Int32))) (own_j1_6_0 i2) (own_j1_6_0 i3) (own_j1_6_0 i4)))])) _
      refine XS.istore X62.here hx rfl (hb hby at_149) rfl (l' := #[.val (.int i1), .val (.int i2), .val (.int i3), .val (.int i4), .val (.int i5), .val (.int i6), .val (.int (1 : Int32)), .val (.int ((128 : Int32) ||| (i1 &&& (127 : Int32)))), .val (.int (own_j1_6_0 i2)), .val (.int (own_j1_6_0 i3)), .val (.int (own_j1_6_0 i4)), .val (.int (((i5.toUInt32 >>> ((8 : Int32) &&& 31).toUInt32).toInt32).toInt8.toInt32)), .val (.ref b40), .val (.int ((2 : Int32) + ((i6 &&& (2147483647 : Int32)) % (5 : Int32)))), .val (.int (own_r2 (1 : Int32) ((2 : Int32) + ((i6 &&& (2147483647 : Int32)) % (5 : Int32))) ((128 : Int32) ||| (i1 &&& (127 : Int32))) (own_j1_6_0 i2) (own_j1_6_0 i3) (own_j1_6_0 i4)))]) rfl ?_
      show Steps p.tables e below (T62.setTop (mkF m 151 #[.val (.int i1), .val (.int i2), .val (.int i3), .val (.int i4), .val (.int i5), .val (.int i6), .val (.int (1 : Int32)), .val (.int ((128 : Int32) ||| (i1 &&& (127 : Int32)))), .val (.int (own_j1_6_0 i2)), .val (.int (own_j1_6_0 i3)), .val (.int (own_j1_6_0 i4)), .val (.int (((i5.toUInt32 >>> ((8 : Int32) &&& 31).toUInt32).toInt32).toInt8.toInt32)), .val (.ref b40), .val (.int ((2 : Int32) + ((i6 &&& (2147483647 : Int32)) % (5 : Int32)))), .val (.int (own_r2 (1 : Int32) ((2 : Int32) + ((i6 &&& (2147483647 : Int32)) % (5 : Int32))) ((128 : Int32) ||| (i1 &&& (127 : Int32))) (own_j1_6_0 i2) (own_j1_6_0 i3) (own_j1_6_0 i4)))] [])) _
      refine XS.aload X62.here hx rfl (hb hby at_151) rfl rfl ?_
      show Steps p.tables e below (T62.setTop (mkF m 153 #[.val (.int i1), .val (.int i2), .val (.int i3), .val (.int i4), .val (.int i5), .val (.int i6), .val (.int (1 : Int32)), .val (.int ((128 : Int32) ||| (i1 &&& (127 : Int32)))), .val (.int (own_j1_6_0 i2)), .val (.int (own_j1_6_0 i3)), .val (.int (own_j1_6_0 i4)), .val (.int (((i5.toUInt32 >>> ((8 : Int32) &&& 31).toUInt32).toInt32).toInt8.toInt32)), .val (.ref b40), .val (.int ((2 : Int32) + ((i6 &&& (2147483647 : Int32)) % (5 : Int32)))), .val (.int (own_r2 (1 : Int32) ((2 : Int32) + ((i6 &&& (2147483647 : Int32)) % (5 : Int32))) ((128 : Int32) ||| (i1 &&& (127 : Int32))) (own_j1_6_0 i2) (own_j1_6_0 i3) (own_j1_6_0 i4)))] [(.ref b40)])) _
      refine XS.iload X62.here hx rfl (hb hby at_153) rfl ?_
      show Steps p.tables e below (T62.setTop (mkF m 155 #[.val (.int i1), .val (.int i2), .val (.int i3), .val (.int i4), .val (.int i5), .val (.int i6), .val (.int (1 : Int32)), .val (.int ((128 : Int32) ||| (i1 &&& (127 : Int32)))), .val (.int (own_j1_6_0 i2)), .val (.int (own_j1_6_0 i3)), .val (.int (own_j1_6_0 i4)), .val (.int (((i5.toUInt32 >>> ((8 : Int32) &&& 31).toUInt32).toInt32).toInt8.toInt32)), .val (.ref b40), .val (.int ((2 : Int32) + ((i6 &&& (2147483647 : Int32)) % (5 : Int32)))), .val (.int (own_r2 (1 : Int32) ((2 : Int32) + ((i6 &&& (2147483647 : Int32)) % (5 : Int32))) ((128 : Int32) ||| (i1 &&& (127 : Int32))) (own_j1_6_0 i2) (own_j1_6_0 i3) (own_j1_6_0 i4)))] [(.int (1 : Int32)), (.ref b40)])) _
      refine XS.iload X62.here hx rfl (hb hby at_155) rfl ?_
      show Steps p.tables e below (T62.setTop (mkF m 157 #[.val (.int i1), .val (.int i2), .val (.int i3), .val (.int i4), .val (.int i5), .val (.int i6), .val (.int (1 : Int32)), .val (.int ((128 : Int32) ||| (i1 &&& (127 : Int32)))), .val (.int (own_j1_6_0 i2)), .val (.int (own_j1_6_0 i3)), .val (.int (own_j1_6_0 i4)), .val (.int (((i5.toUInt32 >>> ((8 : Int32) &&& 31).toUInt32).toInt32).toInt8.toInt32)), .val (.ref b40), .val (.int ((2 : Int32) + ((i6 &&& (2147483647 : Int32)) % (5 : Int32)))), .val (.int (own_r2 (1 : Int32) ((2 : Int32) + ((i6 &&& (2147483647 : Int32)) % (5 : Int32))) ((128 : Int32) ||| (i1 &&& (127 : Int32))) (own_j1_6_0 i2) (own_j1_6_0 i3) (own_j1_6_0 i4)))] [(.int ((2 : Int32) + ((i6 &&& (2147483647 : Int32)) % (5 : Int32)))), (.int (1 : Int32)), (.ref b40)])) _
      refine st63 _ ?_
      show Steps p.tables e below (T63.setTop (mkF m 160 #[.val (.int i1), .val (.int i2), .val (.int i3), .val (.int i4), .val (.int i5), .val (.int i6), .val (.int (1 : Int32)), .val (.int ((128 : Int32) ||| (i1 &&& (127 : Int32)))), .val (.int (own_j1_6_0 i2)), .val (.int (own_j1_6_0 i3)), .val (.int (own_j1_6_0 i4)), .val (.int (((i5.toUInt32 >>> ((8 : Int32) &&& 31).toUInt32).toInt32).toInt8.toInt32)), .val (.ref b40), .val (.int ((2 : Int32) + ((i6 &&& (2147483647 : Int32)) % (5 : Int32)))), .val (.int (own_r2 (1 : Int32) ((2 : Int32) + ((i6 &&& (2147483647 : Int32)) % (5 : Int32))) ((128 : Int32) ||| (i1 &&& (127 : Int32))) (own_j1_6_0 i2) (own_j1_6_0 i3) (own_j1_6_0 i4)))] [(.int (own_r3a ((2 : Int32) + ((i6 &&& (2147483647 : Int32)) % (5 : Int32))) (nar .byte (((128 : Int32) ||| (i1 &&& (127 : Int32))).toInt8.toInt32)) (nar .byte ((own_j1_6_0 i2).toInt8.toInt32)) (nar .byte ((own_j1_6_0 i3).toInt8.toInt32)) (nar .byte ((own_j1_6_0 i4).toInt8.toInt32))))])) _
      refine XS.iload X63.here hx rfl (hb hby at_160) rfl ?_
      exact k
    have pre68 : ∀ t, Steps p.tables e below (T63.setTop (mkF m 170 #[.val (.int i1), .val (.int i2), .val (.int i3), .val (.int i4), .val (.int i5), .val (.int i6), .val (.int (1 : Int32)), .val (.int ((128 : Int32) ||| (i1 &&& (127 : Int32)))), .val (.int (own_j1_6_0 i2)), .val (.int (own_j1_6_0 i3)), .val (.int (own_j1_6_0 i4)), .val (.int (((i5.toUInt32 >>> ((8 : Int32) &&& 31).toUInt32).toInt32).toInt8.toInt32)), .val (.ref b40), .val (.int ((2 : Int32) + ((i6 &&& (2147483647 : Int32)) % (5 : Int32)))), .val (.int (own_r2 (1 : Int32) ((2 : Int32) + ((i6 &&& (2147483647 : Int32)) % (5 : Int32))) ((128 : Int32) ||| (i1 &&& (127 : Int32))) (own_j1_6_0 i2) (own_j1_6_0 i3) (own_j1_6_0 i4)))] [(.int (own_j0_162_0_v1 i1 i2 i3 i4 i6))])) t → Steps p.tables e below (s₁.setTop (entryFrame m #[(.int i1), (.int i2), (.int i3), (.int i4), (.int i5), (.int i6)] maxLocals)) t := by
      by_cases hc162_65 : (own_r3a ((2 : Int32) + ((i6 &&& (2147483647 : Int32)) % (5 : Int32))) (nar .byte (((128 : Int32) ||| (i1 &&& (127 : Int32))).toInt8.toInt32)) (nar .byte ((own_j1_6_0 i2).toInt8.toInt32)) (nar .byte ((own_j1_6_0 i3).toInt8.toInt32)) (nar .byte ((own_j1_6_0 i4).toInt8.toInt32))) = (own_r2 (1 : Int32) ((2 : Int32) + ((i6 &&& (2147483647 : Int32)) % (5 : Int32))) ((128 : Int32) ||| (i1 &&& (127 : Int32))) (own_j1_6_0 i2) (own_j1_6_0 i3) (own_j1_6_0 i4))
      · have pre66 : ∀ t, Steps p.tables e below (T63.setTop (mkF m 170 #[.val (.int i1), .val (.int i2), .val (.int i3), .val (.int i4), .val (.int i5), .val (.int i6), .val (.int (1 : Int32)), .val (.int ((128 : Int32) ||| (i1 &&& (127 : Int32)))), .val (.int (own_j1_6_0 i2)), .val (.int (own_j1_6_0 i3)), .val (.int (own_j1_6_0 i4)), .val (.int (((i5.toUInt32 >>> ((8 : Int32) &&& 31).toUInt32).toInt32).toInt8.toInt32)), .val (.ref b40), .val (.int ((2 : Int32) + ((i6 &&& (2147483647 : Int32)) % (5 : Int32)))), .val (.int (own_r2 (1 : Int32) ((2 : Int32) + ((i6 &&& (2147483647 : Int32)) % (5 : Int32))) ((128 : Int32) ||| (i1 &&& (127 : Int32))) (own_j1_6_0 i2) (own_j1_6_0 i3) (own_j1_6_0 i4)))] [(.int (1 : Int32))])) t → Steps p.tables e below (s₁.setTop (entryFrame m #[(.int i1), (.int i2), (.int i3), (.int i4), (.int i5), (.int i6)] maxLocals)) t := by
          intro t k
          refine pre64 _ ?_
          show Steps p.tables e below (T63.setTop (mkF m 162 #[.val (.int i1), .val (.int i2), .val (.int i3), .val (.int i4), .val (.int i5), .val (.int i6), .val (.int (1 : Int32)), .val (.int ((128 : Int32) ||| (i1 &&& (127 : Int32)))), .val (.int (own_j1_6_0 i2)), .val (.int (own_j1_6_0 i3)), .val (.int (own_j1_6_0 i4)), .val (.int (((i5.toUInt32 >>> ((8 : Int32) &&& 31).toUInt32).toInt32).toInt8.toInt32)), .val (.ref b40), .val (.int ((2 : Int32) + ((i6 &&& (2147483647 : Int32)) % (5 : Int32)))), .val (.int (own_r2 (1 : Int32) ((2 : Int32) + ((i6 &&& (2147483647 : Int32)) % (5 : Int32))) ((128 : Int32) ||| (i1 &&& (127 : Int32))) (own_j1_6_0 i2) (own_j1_6_0 i3) (own_j1_6_0 i4)))] [(.int (own_r2 (1 : Int32) ((2 : Int32) + ((i6 &&& (2147483647 : Int32)) % (5 : Int32))) ((128 : Int32) ||| (i1 &&& (127 : Int32))) (own_j1_6_0 i2) (own_j1_6_0 i3) (own_j1_6_0 i4))), (.int (own_r3a ((2 : Int32) + ((i6 &&& (2147483647 : Int32)) % (5 : Int32))) (nar .byte (((128 : Int32) ||| (i1 &&& (127 : Int32))).toInt8.toInt32)) (nar .byte ((own_j1_6_0 i2).toInt8.toInt32)) (nar .byte ((own_j1_6_0 i3).toInt8.toInt32)) (nar .byte ((own_j1_6_0 i4).toInt8.toInt32))))])) _
          refine XS.icmpNo X63.here hx rfl (hb hby at_162) rfl (teq hc162_65).2 ?_
          show Steps p.tables e below (T63.setTop (mkF m 165 #[.val (.int i1), .val (.int i2), .val (.int i3), .val (.int i4), .val (.int i5), .val (.int i6), .val (.int (1 : Int32)), .val (.int ((128 : Int32) ||| (i1 &&& (127 : Int32)))), .val (.int (own_j1_6_0 i2)), .val (.int (own_j1_6_0 i3)), .val (.int (own_j1_6_0 i4)), .val (.int (((i5.toUInt32 >>> ((8 : Int32) &&& 31).toUInt32).toInt32).toInt8.toInt32)), .val (.ref b40), .val (.int ((2 : Int32) + ((i6 &&& (2147483647 : Int32)) % (5 : Int32)))), .val (.int (own_r2 (1 : Int32) ((2 : Int32) + ((i6 &&& (2147483647 : Int32)) % (5 : Int32))) ((128 : Int32) ||| (i1 &&& (127 : Int32))) (own_j1_6_0 i2) (own_j1_6_0 i3) (own_j1_6_0 i4)))] [])) _
          refine XS.iconst X63.here hx rfl (hb hby at_165) ?_
          show Steps p.tables e below (T63.setTop (mkF m 166 #[.val (.int i1), .val (.int i2), .val (.int i3), .val (.int i4), .val (.int i5), .val (.int i6), .val (.int (1 : Int32)), .val (.int ((128 : Int32) ||| (i1 &&& (127 : Int32)))), .val (.int (own_j1_6_0 i2)), .val (.int (own_j1_6_0 i3)), .val (.int (own_j1_6_0 i4)), .val (.int (((i5.toUInt32 >>> ((8 : Int32) &&& 31).toUInt32).toInt32).toInt8.toInt32)), .val (.ref b40), .val (.int ((2 : Int32) + ((i6 &&& (2147483647 : Int32)) % (5 : Int32)))), .val (.int (own_r2 (1 : Int32) ((2 : Int32) + ((i6 &&& (2147483647 : Int32)) % (5 : Int32))) ((128 : Int32) ||| (i1 &&& (127 : Int32))) (own_j1_6_0 i2) (own_j1_6_0 i3) (own_j1_6_0 i4)))] [(.int (1 : Int32))])) _
          refine XS.goto X63.here hx rfl (pc0 := 166) (pc' := 170) rfl (hb hby at_166) (by decide) (by decide) ?_
          exact k
        exact fun t k => pre66 t (by rw [show (own_j0_162_0_v1 i1 i2 i3 i4 i6) = (1 : Int32) from (if_pos hc162_65)] at k; exact k)
      · have pre67 : ∀ t, Steps p.tables e below (T63.setTop (mkF m 170 #[.val (.int i1), .val (.int i2), .val (.int i3), .val (.int i4), .val (.int i5), .val (.int i6), .val (.int (1 : Int32)), .val (.int ((128 : Int32) ||| (i1 &&& (127 : Int32)))), .val (.int (own_j1_6_0 i2)), .val (.int (own_j1_6_0 i3)), .val (.int (own_j1_6_0 i4)), .val (.int (((i5.toUInt32 >>> ((8 : Int32) &&& 31).toUInt32).toInt32).toInt8.toInt32)), .val (.ref b40), .val (.int ((2 : Int32) + ((i6 &&& (2147483647 : Int32)) % (5 : Int32)))), .val (.int (own_r2 (1 : Int32) ((2 : Int32) + ((i6 &&& (2147483647 : Int32)) % (5 : Int32))) ((128 : Int32) ||| (i1 &&& (127 : Int32))) (own_j1_6_0 i2) (own_j1_6_0 i3) (own_j1_6_0 i4)))] [(.int (0 : Int32))])) t → Steps p.tables e below (s₁.setTop (entryFrame m #[(.int i1), (.int i2), (.int i3), (.int i4), (.int i5), (.int i6)] maxLocals)) t := by
          intro t k
          refine pre64 _ ?_
          show Steps p.tables e below (T63.setTop (mkF m 162 #[.val (.int i1), .val (.int i2), .val (.int i3), .val (.int i4), .val (.int i5), .val (.int i6), .val (.int (1 : Int32)), .val (.int ((128 : Int32) ||| (i1 &&& (127 : Int32)))), .val (.int (own_j1_6_0 i2)), .val (.int (own_j1_6_0 i3)), .val (.int (own_j1_6_0 i4)), .val (.int (((i5.toUInt32 >>> ((8 : Int32) &&& 31).toUInt32).toInt32).toInt8.toInt32)), .val (.ref b40), .val (.int ((2 : Int32) + ((i6 &&& (2147483647 : Int32)) % (5 : Int32)))), .val (.int (own_r2 (1 : Int32) ((2 : Int32) + ((i6 &&& (2147483647 : Int32)) % (5 : Int32))) ((128 : Int32) ||| (i1 &&& (127 : Int32))) (own_j1_6_0 i2) (own_j1_6_0 i3) (own_j1_6_0 i4)))] [(.int (own_r2 (1 : Int32) ((2 : Int32) + ((i6 &&& (2147483647 : Int32)) % (5 : Int32))) ((128 : Int32) ||| (i1 &&& (127 : Int32))) (own_j1_6_0 i2) (own_j1_6_0 i3) (own_j1_6_0 i4))), (.int (own_r3a ((2 : Int32) + ((i6 &&& (2147483647 : Int32)) % (5 : Int32))) (nar .byte (((128 : Int32) ||| (i1 &&& (127 : Int32))).toInt8.toInt32)) (nar .byte ((own_j1_6_0 i2).toInt8.toInt32)) (nar .byte ((own_j1_6_0 i3).toInt8.toInt32)) (nar .byte ((own_j1_6_0 i4).toInt8.toInt32))))])) _
          refine XS.icmpYes X63.here hx rfl (pc0 := 162) (pc' := 169) rfl (hb hby at_162) rfl (feq hc162_65).2 (by decide) (by decide) ?_
          show Steps p.tables e below (T63.setTop (mkF m 169 #[.val (.int i1), .val (.int i2), .val (.int i3), .val (.int i4), .val (.int i5), .val (.int i6), .val (.int (1 : Int32)), .val (.int ((128 : Int32) ||| (i1 &&& (127 : Int32)))), .val (.int (own_j1_6_0 i2)), .val (.int (own_j1_6_0 i3)), .val (.int (own_j1_6_0 i4)), .val (.int (((i5.toUInt32 >>> ((8 : Int32) &&& 31).toUInt32).toInt32).toInt8.toInt32)), .val (.ref b40), .val (.int ((2 : Int32) + ((i6 &&& (2147483647 : Int32)) % (5 : Int32)))), .val (.int (own_r2 (1 : Int32) ((2 : Int32) + ((i6 &&& (2147483647 : Int32)) % (5 : Int32))) ((128 : Int32) ||| (i1 &&& (127 : Int32))) (own_j1_6_0 i2) (own_j1_6_0 i3) (own_j1_6_0 i4)))] [])) _
          refine XS.iconst X63.here hx rfl (hb hby at_169) ?_
          exact k
        exact fun t k => pre67 t (by rw [show (own_j0_162_0_v1 i1 i2 i3 i4 i6) = (0 : Int32) from (if_neg hc162_65)] at k; exact k)
    obtain ⟨fs, hr, hrun, hended, hW, hsame⟩ := X63.leave (v := some (.int (nar .boolean (own_j0_162_0_v1 i1 i2 i3 i4 i6)))) (fun h => by rw [Bd.returns] at h; cases h)
    refine ⟨_, _, pre68 _ ?_, hrun, hended, _, _, rfl, ?_, ⟨_, rfl⟩, hW, hsame.mono (by decide) (by decide)⟩
    · show Steps p.tables e below (T63.setTop (mkF m 170 #[.val (.int i1), .val (.int i2), .val (.int i3), .val (.int i4), .val (.int i5), .val (.int i6), .val (.int (1 : Int32)), .val (.int ((128 : Int32) ||| (i1 &&& (127 : Int32)))), .val (.int (own_j1_6_0 i2)), .val (.int (own_j1_6_0 i3)), .val (.int (own_j1_6_0 i4)), .val (.int (((i5.toUInt32 >>> ((8 : Int32) &&& 31).toUInt32).toInt32).toInt8.toInt32)), .val (.ref b40), .val (.int ((2 : Int32) + ((i6 &&& (2147483647 : Int32)) % (5 : Int32)))), .val (.int (own_r2 (1 : Int32) ((2 : Int32) + ((i6 &&& (2147483647 : Int32)) % (5 : Int32))) ((128 : Int32) ||| (i1 &&& (127 : Int32))) (own_j1_6_0 i2) (own_j1_6_0 i3) (own_j1_6_0 i4)))] [(.int (own_j0_162_0_v1 i1 i2 i3 i4 i6))])) _
      exact retN X63 hx (t := .boolean) Bd.returns (by simp) (hb hby at_170) hr
    · show Q0 Z i1 i2 i3 i4 i5 i6 h0 n0 _ T63.heap _
      rw [e63]
      exact ⟨congrArg (fun z => some (Value.int z)) (show (own_r0 i1 i2 i3 i4 i5 i6) = (nar .boolean (own_j0_162_0_v1 i1 i2 i3 i4 i6)) from (if_neg (by rw [hk2]; decide))).symm, N63⟩
theorem own_law (i1 : Int32) (i2 : Int32) (i3 : Int32) (i4 : Int32) (i5 : Int32) (i6 : Int32) : (own_r0 i1 i2 i3 i4 i5 i6) = 1 := by
  have hx := own_or128 i1 7 (by decide) 127 (by decide)
  have k1 := own_cont i2
  have k2 := own_cont i3
  have k3 := own_cont i4
  have e0 : own_j0_162_0 i1 i2 i3 i4 i6 = 1 := if_pos (own_eq0 _ _ _ _ _ _ _ _ _ (own_b255 _ (by omega) hx.2) (own_b255 _ k1.1 k1.2) (own_b255 _ k2.1 k2.2) (own_b255 _ k3.1 k3.2) hx.1 hx.2 k1.1 k1.2 k2.1 k2.2 k3.1 k3.2)
  have e1 : own_j0_162_0_v1 i1 i2 i3 i4 i6 = 1 := if_pos (own_eq1 _ _ _ _ _ _ _ _ _ (own_b255 _ (by omega) hx.2) (own_b255 _ k1.1 k1.2) (own_b255 _ k2.1 k2.2) (own_b255 _ k3.1 k3.2) hx.1 hx.2 k1.1 k1.2 k2.1 k2.2 k3.1 k3.2)
  unfold own_r0
  rw [e0, e1]
  split <;> rfl
set_option maxRecDepth 65536 in
set_option maxHeartbeats 40000000 in
theorem comes_1 {Post : Tables → Env → Array Value → State → Outcome → State → Prop} (hpost : ∀ tb e args s v u, (limb_1_1.after args s (.returned v) u = true ∧ limb_1_2.after args s (.returned v) u = true ∧ True) → FrameEnd s (.returned v) u (Jvm.fieldLocs frame_1_writes args s ++ Jvm.arrayLocs frame_1_arrays args s ++ Jvm.staticLocs frame_1_statics s) 16 128 → Post tb e args s (.returned v) u) :
    ArmFor flags0 classFile x code maxLocals ret World_1 tables_1 room_1 Calls_1 rest_1 Pre_1 Post := by
  intro l hfl _ _ p e ha hc hk s m args below hf hA hF happ hP
  obtain ⟨hcalls, hrest, hpre⟩ := hP
  obtain ⟨-, -, -, hnamed, -, -, -, hat⟩ := (Spec.applies_iff hf).mp happ
  obtain ⟨hg, hn⟩ := and_e (Cond.before_iff.mp (show (Jvm.Cond.and given_1 narrow_1).before args s = true from hpre))
  obtain ⟨g1, g2⟩ := and_e hg
  obtain ⟨g3, g4⟩ := and_e g2
  obtain ⟨g5, g6⟩ := and_e g4
  obtain ⟨g7, g8⟩ := and_e g6
  obtain ⟨g9, g10⟩ := and_e g8
  obtain ⟨g11, g12⟩ := and_e g10
  obtain ⟨w0, w1, w2, w3, w4, w5, rfl⟩ : ∃ w0 w1 w2 w3 w4 w5 : Value, args = #[w0, w1, w2, w3, w4, w5] := by
    have hs : args.size = 6 := by simpa [Cond.value, given_1] using g1
    obtain ⟨L⟩ := args
    match L, hs with
    | [w0, w1, w2, w3, w4, w5], _ => exact ⟨w0, w1, w2, w3, w4, w5, rfl⟩
  have hw := fun d (hd : d ∈ tables_1) => atoms_spec (ws := Jvm.Cond.code x code maxLocals ret :: tables_1) hat d (List.mem_cons_of_mem _ hd)
  have hfit : Fit s := fun {y c} hc i hi => by
    obtain ⟨ha, rfl⟩ := Array.getElem?_eq_some_iff.mp hc
    have q := List.all_eq_true.mp ((Array.all_eq_true_iff_forall_mem.mp hF) _ (Array.getElem_mem ha)) i (List.mem_range.mpr hi)
    simpa [Array.getElem?_eq_getElem hi] using q
  obtain ⟨i0, ei0⟩ := is_v g3
  obtain rfl : w0 = (.int i0) := Option.some.inj ei0
  obtain ⟨i1, ei1⟩ := is_v g5
  obtain rfl : w1 = (.int i1) := Option.some.inj ei1
  obtain ⟨i2, ei2⟩ := is_v g7
  obtain rfl : w2 = (.int i2) := Option.some.inj ei2
  obtain ⟨i3, ei3⟩ := is_v g9
  obtain rfl : w3 = (.int i3) := Option.some.inj ei3
  obtain ⟨i4, ei4⟩ := is_v g11
  obtain rfl : w4 = (.int i4) := Option.some.inj ei4
  obtain ⟨i5, ei5⟩ := is_v g12
  obtain rfl : w5 = (.int i5) := Option.some.inj ei5
  obtain ⟨n, o, h1, h2, h3, _, L, rfl, ⟨hv, N⟩, hq⟩ := rm0 l s _ hw tables_1 i0 i1 i2 i3 i4 i5 s.heap s.heap.size (Nat.le_refl _)  p e ha hc hk s m _ below hf ((Spec.applies_iff_loose hf).mp happ).1 ⟨rfl, State.Warmed39.refl s, rfl⟩ trivial
  rw [show (own_r0 i0 i1 i2 i3 i4 i5) = 1 from own_law i0 i1 i2 i3 i4 i5] at hv
  subst hv
  refine ⟨n, _, h1, h2, h3, hpost _ _ _ _ _ _ ⟨Cond.after_iff.mpr rfl, Cond.after_iff.mpr (eq_i res_at (Term.int_eval (1)) rfl), trivial⟩ ⟨hq.1, hq.2.1, (hq.2.2.sift fun y hy => Or.inr (N y hy)).mono (by decide) (by decide)⟩⟩
theorem main_1_1 : Claimed_1_1 := comes_1 fun _ _ _ _ _ _ h hF => ⟨h.1, hF⟩
theorem main_1_2 : Claimed_1_2 := comes_1 fun _ _ _ _ _ _ h hF => ⟨h.2.1, hF⟩
end Jvm.Pilot.@@N@@
namespace Jvm.Pilot.@@N@@
open Jvm Jvm.ClassFile Sem Op Lib Jvm.Free Jvm.Stand Jvm.Pilot.@@N@@.Jvm.D
/-! MADE BY PROGRAM (witnessworld.py) out of the Statement's table words and the real class files: 11 classes; the members and pool entries that the words name. The judged class is class 1, her method 1. -/
namespace start1
open Jvm.ClassFile
def u (s : String) : CpInfo := .utf8 (stringToUtf16 s)
/-- a pool by its gaps: so many unusable entries, then the entry; so many at the end -/
def gap : Nat → List CpInfo → List CpInfo
  | 0, r => r
  | n + 1, r => .unusable :: gap n r
def poolList (es : List (Nat × CpInfo)) (last : Nat) : List CpInfo := es.foldr (fun e r => gap e.1 (e.2 :: r)) (gap last [])
def pool (es : List (Nat × CpInfo)) (last : Nat) : Array CpInfo := ⟨poolList es last⟩
def fileOf (pool : Array CpInfo) (this : Nat) (attrs : Array Attribute := #[]) (ms : Array MethodInfo := #[]) (fl : Nat := 33) (sup : Nat := 0) (ifs : Array Nat := #[]) (fds : Array FieldInfo := #[]) : ClassFile where
  minorVersion := 0
  majorVersion := 65
  constantPool := pool
  accessFlags := fl
  thisClass := this
  superClass := sup
  interfaces := ifs
  fields := fds
  methods := ms
  attributes := attrs
def plain (name : String) (sup : Option ClassId) : Class where
  name := name
  kind := .ordinary
  loader := none
  accessFlags := 33
  super := sup
  interfaces := #[]
  cf := none
  fields := #[]
  methods := #[]
  instanceTypes := #[]
  staticTypes := #[]
  resolved := #[]
  callSites := []
  init := .initialized
  statics := none
  mirror := none

def pool0 : Array CpInfo := pool [(5, u "<init>"), (0, u "()V"), (1, .class_ 10), (1, u "java/lang/Object")] 113

def k0m0 : Method := { name := "<init>", desc := "()V", sig := { parameters := [], returnType := none }, accessFlags := 1, code := none }
/-- java/lang/Object -/
def k0 : Class := { plain "java/lang/Object" none with
  accessFlags := 33
  interfaces := #[]
  cf := some (fileOf pool0 8 #[] #[{ accessFlags := 1, nameIndex := 5, descriptorIndex := 6, attributes := #[] }] 33 0 #[] #[])
  fields := #[]
  methods := #[k0m0]
  instanceTypes := #[]
  staticTypes := #[]
  resolved := Array.replicate 124 none
  statics := none }

def pool1 : Array CpInfo := pool [(2, .class_ 4), (1, u "java/lang/Object"), (0, u "<init>"), (0, u "()V"), (0, .methodref 8 9), (0, .class_ 10), (0, .nameAndType 11 12), (0, u "com/example/terseform/terseform/codec/CborTextStringUtf8SequenceEndPinLaw"), (0, u "cont"), (0, u "(I)I"), (0, .integer 2147483647), (0, .methodref 8 15), (0, .nameAndType 16 17), (0, u "expected"), (0, u "(IIIIII)I"), (0, .methodref 19 20), (0, .class_ 21), (0, .nameAndType 22 23), (0, u "com/example/terseform/terseform/codec/CborTextString"), (0, u "utf8SequenceEnd"), (0, u "([BII)I"), (2, u "law"), (0, u "(IIIIII)Z")] 5

def k1m0 : Method := { name := "<init>", desc := "()V", sig := { parameters := [], returnType := none }, accessFlags := 1, code := none }
def k1c1 : Code := { maxStack := 6, maxLocals := 15, code := code, exceptionTable := #[], attributes := #[] }
def k1m1 : Method := { name := "law", desc := "(IIIIII)Z", sig := { parameters := [.int, .int, .int, .int, .int, .int], returnType := some .boolean }, accessFlags := 9, code := some k1c1 }
def k1c2 : Code := { maxStack := 3, maxLocals := 1, code := method_3_code, exceptionTable := #[], attributes := #[] }
def k1m2 : Method := { name := "cont", desc := "(I)I", sig := { parameters := [.int], returnType := some .int }, accessFlags := 10, code := some k1c2 }
def k1c3 : Code := { maxStack := 3, maxLocals := 10, code := method_4_code, exceptionTable := #[], attributes := #[] }
def k1m3 : Method := { name := "expected", desc := "(IIIIII)I", sig := { parameters := [.int, .int, .int, .int, .int, .int], returnType := some .int }, accessFlags := 10, code := some k1c3 }
/-- com/example/terseform/terseform/codec/CborTextStringUtf8SequenceEndPinLaw -/
def k1 : Class := { plain "com/example/terseform/terseform/codec/CborTextStringUtf8SequenceEndPinLaw" (some 0) with
  accessFlags := 49
  interfaces := #[]
  cf := some (fileOf pool1 8 #[] #[{ accessFlags := 1, nameIndex := 5, descriptorIndex := 6, attributes := #[] }, { accessFlags := 9, nameIndex := 26, descriptorIndex := 27, attributes := #[] }, { accessFlags := 10, nameIndex := 11, descriptorIndex := 12, attributes := #[] }, { accessFlags := 10, nameIndex := 16, descriptorIndex := 17, attributes := #[] }] 49 2 #[] #[])
  fields := #[]
  methods := #[k1m0, k1m1, k1m2, k1m3]
  instanceTypes := #[]
  staticTypes := #[]
  resolved := Array.replicate 33 none
  statics := none }

def pool2 : Array CpInfo := pool [(2, .class_ 4), (1, u "java/lang/Object"), (0, u "<init>"), (0, u "()V"), (4, .class_ 13), (1, u "com/example/terseform/terseform/codec/CborValue"), (65, u "KINDS"), (0, u "Ljava/util/List;")] 68

def k2m0 : Method := { name := "<init>", desc := "()V", sig := { parameters := [], returnType := none }, accessFlags := 0, code := none }
/-- com/example/terseform/terseform/codec/CborValue -/
def k2 : Class := { plain "com/example/terseform/terseform/codec/CborValue" (some 0) with
  accessFlags := 1057
  interfaces := #[]
  cf := some (fileOf pool2 11 #[] #[{ accessFlags := 0, nameIndex := 5, descriptorIndex := 6, attributes := #[] }] 1057 2 #[] #[{ accessFlags := 26, nameIndex := 79, descriptorIndex := 80, attributes := #[] }])
  fields := #[{ name := "KINDS", type := (.object "java/util/List"), accessFlags := 26, slot := 0, constantValue := 0 }]
  methods := #[k2m0]
  instanceTypes := #[]
  staticTypes := #[(.object "java/util/List")]
  resolved := Array.replicate 149 none
  statics := none }

def pool3 : Array CpInfo := pool [(2, .class_ 4), (1, u "com/example/terseform/terseform/codec/CborValue"), (3, .class_ 10), (1, u "com/example/terseform/terseform/codec/CborString"), (0, u "bytes"), (0, u "[B"), (2, u "chunks"), (0, u "Ljava/util/List;")] 72

/-- com/example/terseform/terseform/codec/CborString -/
def k3 : Class := { plain "com/example/terseform/terseform/codec/CborString" (some 2) with
  accessFlags := 1056
  interfaces := #[]
  cf := some (fileOf pool3 8 #[] #[] 1056 2 #[] #[{ accessFlags := 18, nameIndex := 11, descriptorIndex := 12, attributes := #[] }, { accessFlags := 18, nameIndex := 15, descriptorIndex := 16, attributes := #[] }])
  fields := #[{ name := "bytes", type := (.array .byte), accessFlags := 18, slot := 0, constantValue := 0 }, { name := "chunks", type := (.object "java/util/List"), accessFlags := 18, slot := 1, constantValue := 0 }]
  methods := #[]
  instanceTypes := #[(.array .byte), (.object "java/util/List")]
  staticTypes := #[]
  resolved := Array.replicate 89 none
  statics := none }

def pool4 : Array CpInfo := pool [(2, .class_ 4), (1, u "com/example/terseform/terseform/codec/CborString"), (39, .class_ 45), (0, u "com/example/terseform/terseform/codec/CborTextString"), (41, u "utf8SequenceEnd"), (0, u "([BII)I")] 59

def k4c0 : Code := { maxStack := 3, maxLocals := 9, code := prog_31_method_9_code, exceptionTable := #[], attributes := #[] }
def k4m0 : Method := { name := "utf8SequenceEnd", desc := "([BII)I", sig := { parameters := [(.array .byte), .int, .int], returnType := some .int }, accessFlags := 8, code := some k4c0 }
/-- com/example/terseform/terseform/codec/CborTextString -/
def k4 : Class := { plain "com/example/terseform/terseform/codec/CborTextString" (some 3) with
  accessFlags := 49
  interfaces := #[]
  cf := some (fileOf pool4 44 #[] #[{ accessFlags := 8, nameIndex := 87, descriptorIndex := 88, attributes := #[] }] 49 2 #[] #[])
  fields := #[]
  methods := #[k4m0]
  instanceTypes := #[(.array .byte), (.object "java/util/List")]
  staticTypes := #[]
  resolved := Array.replicate 148 none
  statics := none }

def pool5 : Array CpInfo := pool [(1, u "java/lang/Cloneable"), (0, .class_ 1), (0, u "java/lang/Object"), (0, .class_ 3)] 3

/-- java/lang/Cloneable -/
def k5 : Class := { plain "java/lang/Cloneable" (some 0) with
  accessFlags := 1537
  interfaces := #[]
  cf := some (fileOf pool5 2 #[] #[] 1537 4 #[] #[])
  fields := #[]
  methods := #[]
  instanceTypes := #[]
  staticTypes := #[]
  resolved := Array.replicate 8 none
  statics := none }

def pool6 : Array CpInfo := pool [(1, u "java/io/Serializable"), (0, .class_ 1), (0, u "java/lang/Object"), (0, .class_ 3)] 3

/-- java/io/Serializable -/
def k6 : Class := { plain "java/io/Serializable" (some 0) with
  accessFlags := 1537
  interfaces := #[]
  cf := some (fileOf pool6 2 #[] #[] 1537 4 #[] #[])
  fields := #[]
  methods := #[]
  instanceTypes := #[]
  staticTypes := #[]
  resolved := Array.replicate 8 none
  statics := none }

/-- the primitive byte -/
def k7 : Class := { plain "byte" none with kind := .primitive 'B', accessFlags := 0x411 }
/-- [B -/
def k8 : Class := { plain "[B" (some 0) with kind := .array 7 .byte, interfaces := #[5, 6], accessFlags := 1041 }

/-- the primitive int -/
def k9 : Class := { plain "int" none with kind := .primitive 'I', accessFlags := 0x411 }
/-- [I -/
def k10 : Class := { plain "[I" (some 0) with kind := .array 9 .int, interfaces := #[5, 6], accessFlags := 1041 }

def heap : Heap := #[]
def classes : Array Class := #[k0, k1, k2, k3, k4, k5, k6, k7, k8, k9, k10]
def interned : List (Array UInt16 × Addr) := []
def slotsUsed : Nat := 0
def theMethod : MethodId := ⟨1, 1⟩
def args0 : Array Value := #[.int 5, .int 6, .int 7, .int 8, .int 9, .int 10]
def aboutOver (below : List Frame) : State where
  vm := { classes := classes, interned := interned.toArray }
  heap := heap
  slotsUsed := slotsUsed
  threads := #[{ frames := .invoking theMethod args0 :: below }]
def below0 : List Frame := [.native { method := ⟨0, 0⟩, args := #[] }]
def about1 : State := aboutOver below0
def p0 : Program := .bare "" "" ""
def e0 : Env := launch0.env 0 0 0
theorem w_frames : about1.frames = Frame.invoking theMethod args0 :: below0 := rfl
set_option maxRecDepth 65536 in
theorem w_args : argsFit about1.vm theMethod args0 = true := by decide +kernel
set_option maxRecDepth 65536 in
theorem w_heap : heapFits about1 = true := by decide +kernel
set_option maxRecDepth 65536 in
theorem w_runnable : about1.curStatus? = some .runnable := by decide +kernel
set_option maxRecDepth 65536 in
theorem w_alone : about1.alone = true := by decide +kernel
set_option maxRecDepth 65536 in
theorem w_named : about1.methodNamed? x = some theMethod := by decide +kernel
set_option maxRecDepth 65536 in
theorem w_hears : about1.hears theMethod below0 = true := by decide +kernel
set_option maxRecDepth 65536 in
theorem w_ripe : about1.ripe theMethod args0 below0 = true := by decide +kernel
theorem w_running : about1.status = .running := rfl
set_option maxRecDepth 65536 in
theorem w_room : about1.hasRoom e0.platform room_1 = true :=
  launch0.hasRoom_least _ room_1 (by decide +kernel) (by decide +kernel) (by decide +kernel) (by decide +kernel) (by decide +kernel) (by decide +kernel)
theorem allAtoms_all (ts : List Jvm.Cond) (a : Array Jvm.Value) (st : Jvm.State) : (allAtoms ts).before a st = ts.all (fun c => c.before a st) := by
  induction ts with
  | nil => rfl
  | cons c t ih =>
    show (Jvm.Cond.and c (allAtoms t)).before a st = _
    rw [Jvm.Cond.before_and, ih, List.all_cons]
def words1 : List Jvm.Cond := Jvm.Cond.code x code maxLocals ret :: tables_1
/-- a 'code' word, met by the world's own term for the bytes: nothing is compared byte by byte -/
theorem code_word {y : MethodName} {bytes : ByteArray} {mx : Nat} {rt : Option FieldType} {a : Array Value} {s : State} {m : MethodId} {meth : Method} {c : Code} (h1 : s.methodNamed? y = some m) (h2 : s.vm.method? m = some meth) (h3 : meth.code = some c) (h4 : c.code = bytes)
    (h5 : (c.maxLocals == mx && c.exceptionTable.isEmpty && decide (c.maxStack ≤ mostOperands) && decide (meth.sig.returnType = rt) && !meth.locks && decide (parseMethodDescriptor y.desc = some meth.sig)) = true) : (Jvm.Cond.code y bytes mx rt).before a s = true := by
  simp only [Bool.and_eq_true, beq_iff_eq, Bool.not_eq_true', decide_eq_true_eq] at h5
  obtain ⟨⟨⟨⟨⟨g1, g2⟩, g3⟩, g4⟩, g5⟩, g6⟩ := h5
  simp [Cond.before, Cond.holds, Cond.value, h1, h2, h3, h4, g1, g2, g3, g4, g5, g6]
def isCode : Jvm.Cond → Bool
  | .code _ _ _ _ => true
  | _ => false
theorem all_split {L : List Jvm.Cond} {P : Jvm.Cond → Bool} (h1 : L.all (fun c => isCode c || P c) = true) (h2 : ∀ c ∈ L.filter isCode, P c = true) : L.all P = true := by
  refine List.all_eq_true.mpr fun c hc => ?_
  have h := List.all_eq_true.mp h1 c hc
  rcases Bool.eq_false_or_eq_true (isCode c) with hi | hi
  · exact h2 c (List.mem_filter.mpr ⟨hc, hi⟩)
  · simpa [hi] using h
set_option maxRecDepth 65536 in
theorem w_c0 : (Jvm.Cond.code x code maxLocals ret).before args0 about1 = true := code_word (m := ⟨1, 1⟩) (meth := k1m1) (c := k1c1) (by decide +kernel) rfl rfl rfl (by decide +kernel)
set_option maxRecDepth 65536 in
theorem w_c1 : (Jvm.Cond.code ({ cls := "com/example/terseform/terseform/codec/CborTextStringUtf8SequenceEndPinLaw", name := "cont", desc := "(I)I" } : Jvm.MethodName) method_3_code (1 : Nat) (Option.some Jvm.ClassFile.FieldType.int)).before args0 about1 = true := code_word (m := ⟨1, 2⟩) (meth := k1m2) (c := k1c2) (by decide +kernel) rfl rfl rfl (by decide +kernel)
set_option maxRecDepth 65536 in
theorem w_c2 : (Jvm.Cond.code ({ cls := "com/example/terseform/terseform/codec/CborTextStringUtf8SequenceEndPinLaw", name := "expected", desc := "(IIIIII)I" } : Jvm.MethodName) method_4_code (10 : Nat) (Option.some Jvm.ClassFile.FieldType.int)).before args0 about1 = true := code_word (m := ⟨1, 3⟩) (meth := k1m3) (c := k1c3) (by decide +kernel) rfl rfl rfl (by decide +kernel)
set_option maxRecDepth 65536 in
theorem w_c3 : (Jvm.Cond.code ({ cls := "com/example/terseform/terseform/codec/CborTextString", name := "utf8SequenceEnd", desc := "([BII)I" } : Jvm.MethodName) prog_31_method_9_code (9 : Nat) (Option.some Jvm.ClassFile.FieldType.int)).before args0 about1 = true := code_word (m := ⟨4, 0⟩) (meth := k4m0) (c := k4c0) (by decide +kernel) rfl rfl rfl (by decide +kernel)
def codes1 : List Jvm.Cond := [Jvm.Cond.code x code maxLocals ret, Jvm.Cond.code ({ cls := "com/example/terseform/terseform/codec/CborTextStringUtf8SequenceEndPinLaw", name := "cont", desc := "(I)I" } : Jvm.MethodName) method_3_code (1 : Nat) (Option.some Jvm.ClassFile.FieldType.int), Jvm.Cond.code ({ cls := "com/example/terseform/terseform/codec/CborTextStringUtf8SequenceEndPinLaw", name := "expected", desc := "(IIIIII)I" } : Jvm.MethodName) method_4_code (10 : Nat) (Option.some Jvm.ClassFile.FieldType.int), Jvm.Cond.code ({ cls := "com/example/terseform/terseform/codec/CborTextString", name := "utf8SequenceEnd", desc := "([BII)I" } : Jvm.MethodName) prog_31_method_9_code (9 : Nat) (Option.some Jvm.ClassFile.FieldType.int)]
set_option maxRecDepth 65536 in
theorem codes_eq : words1.filter isCode = codes1 := rfl
theorem w_codes : ∀ c ∈ words1.filter isCode, c.before args0 about1 = true := by
  rw [codes_eq]
  intro c hc
  simp only [codes1, List.mem_cons, List.not_mem_nil, or_false] at hc
  rcases hc with rfl | rfl | rfl | rfl
  · exact w_c0
  · exact w_c1
  · exact w_c2
  · exact w_c3
set_option maxRecDepth 65536 in
theorem w_t1 : words1.all (fun c => isCode c || c.before args0 about1) = true := by decide +kernel
theorem w_tables : (allAtoms (Jvm.Cond.code x code maxLocals ret :: tables_1)).before args0 about1 = true := by
  rw [allAtoms_all]
  show words1.all (fun c => c.before args0 about1) = true
  refine all_split ?_ w_codes
  rw [w_t1]
set_option maxRecDepth 65536 in
theorem w_case : (Jvm.Cond.and given_1 narrow_1).before args0 about1 = true := by decide +kernel
theorem w_applies : (headSpec (Jvm.Cond.code x code maxLocals ret :: tables_1) room_1).applies x e0.platform about1 = true :=
  (Spec.applies_iff w_frames).mpr ⟨w_running, w_runnable, w_alone, w_named, w_hears, w_ripe, w_room, w_tables⟩
theorem atStart : AtStart classFile x code maxLocals ret World_1 tables_1 room_1 Calls_1 rest_1 Pre_1 launch0 p0 e0 about1 theMethod args0 below0 :=
  ⟨lists_1, trivial, launch0.admits_env _ _ _, launch0.least_env, fairChoices_fair.cas, fairChoices_fair.clock, w_frames, w_args, w_heap, w_applies, trivial, trivial, w_case⟩
end start1
theorem witness_1 : WitnessClaimed_1 := ⟨start1.p0, start1.e0, start1.about1, start1.theMethod, start1.args0, start1.below0, start1.atStart⟩
end Jvm.Pilot.@@N@@
